import JvmDerived
import JvmDerived.Pilot.@@N@@Statement
import JvmDerived.Pilot.@@N@@Code
set_option linter.unusedVariables false
set_option linter.unusedSimpArgs false
@@BLOCK:NumsL.lean.txt@@
namespace Jvm.RoadKit
open Sem ClassFile Op Lib Jvm.Stand Jvm.Free Jvm.LawKit
section New
variable {p : Program} {l : Launch} {e : Env} {R : Room} {s : State} {m : MethodId} {args : Array Value} {below : List Frame} {meth : Method} {c : Code} {T : State} {locs : List Loc} {cells slots : Nat}
theorem retI (X : Stand p l e R s m args below meth c T locs cells slots) (hx : p.tables.exec = Jvm.exec) {pc : Nat} {Ls : Array Slot} {z : Int32} {rest : List Value} (hret : meth.sig.returnType = some .int) (hd : decode c.code pc = .ok (.ireturn, 1)) {fs : List Frame}
    (hl : ∀ (f : JFrame) (acts : List Action), f.method = m → f.locked = none → f.entered = [] → (doReturn e (T.setTop f) acts (some (.int z))).1 = T.setFrames fs) : Steps p.tables e below (T.setTop (mkF m pc Ls (.int z :: rest))) (T.setFrames fs) := by
  have hm' : T.vm.method? m = some meth := X.method'
  have hn : narrow .int (.int z) = .int z := rfl
  show Steps p.tables e below (T.setTop { method := m, pc := pc, locals := Ls, stack := _ :: rest, locked := none }) _
  jvm_step X.here [X.here.top, hx, hd, hm', hret, hn]
  first | (intro acts; rw [hl _ acts rfl rfl rfl]) | rw [hl _ _ rfl rfl rfl]
  exact Steps.refl _
end New
end Jvm.RoadKit
namespace Jvm.Pilot.@@N@@
open Jvm Jvm.ClassFile Sem Op Lib Jvm.Free Jvm.Stand Jvm.LawKit Jvm.RoadKit Bundle Jvm.Pilot.@@N@@.Jvm.D
/-! from here the body runs to its end, and leaves what Q says -/
def Goes (p : Program) (e : Env) (below : List Frame) (Q : Outcome → State → Prop) (st : State) : Prop :=
  ∃ s₂ o, Steps p.tables e below st s₂ ∧ s₂.status = .running ∧ Ended s₂ below o ∧ Q o s₂
theorem Goes.go {p : Program} {e : Env} {below : List Frame} {Q : Outcome → State → Prop} {st st' : State} (h : ∀ t, Steps p.tables e below st' t → Steps p.tables e below st t) (k : Goes p e below Q st') : Goes p e below Q st := by
  obtain ⟨s₂, o, h1, h2⟩ := k
  exact ⟨s₂, o, h _ h1, h2⟩
theorem Goes.via {p : Program} {e : Env} {below : List Frame} {Q : Outcome → State → Prop} {st st' : State} (h : Steps p.tables e below st st') (k : Goes p e below Q st') : Goes p e below Q st :=
  Goes.go (fun _ q => h.trans q) k
theorem Goes.out {p : Program} {l : Launch} {e : Env} {R : Room} {s : State} {m : MethodId} {args : Array Value} {below : List Frame} {meth : Method} {c : Code} {T : State} {locs : List Loc} {cells slots : Nat}
    (X : Stand p l e R s m args below meth c T locs cells slots) {v : Option Value} {g : JFrame} (hv : meth.sig.returnType = none → v = none) (hlocks : meth.locks = false)
    (hst : ∀ fs : List Frame, (∀ (f : JFrame) (acts : List Action), f.method = m → f.locked = none → f.entered = [] → (doReturn e (T.setTop f) acts v).1 = T.setFrames fs) → Steps p.tables e below (T.setTop g) (T.setFrames fs))
    {Qn : Option Value → Heap → List Loc → Prop} {C S : Nat} (hq : Qn v T.heap locs) (hC : cells ≤ C) (hS : slots ≤ S) :
    Goes p e below (fun o U' => ∃ v L, o = .returned v ∧ Qn v U'.heap L ∧ FrameEnd s o U' L C S) (T.setTop g) := by
  obtain ⟨fs, hr, hrun, hended, hW, hsame⟩ := X.leave (v := v) hv hlocks
  exact ⟨_, _, hst fs hr, hrun, hended, _, _, rfl, hq, ⟨_, rfl⟩, hW, hsame.mono hC hS⟩

/-! a class that isn't below another -/
def own_nosub (Z : State) (C K : String) : Prop := ∀ (f : Nat) (c t : ClassId), Z.vm.findClass C = some c → Z.vm.findClass K = some t → Z.vm.isSubclassAux f c t = false
theorem own_necls {Z : State} {C K : String} {c t : ClassId} (hc : Z.vm.findClass C = some c) (ht : Z.vm.findClass K = some t) (hn : C ≠ K) : (c == t) = false := by
  refine beq_false_of_ne fun e => hn ?_
  subst e
  obtain ⟨k1, o1, a2⟩ := Vm.findClass_spec hc
  obtain ⟨k2, b1, b2⟩ := Vm.findClass_spec ht
  cases o1.symm.trans b1
  exact a2.symm.trans b2
theorem own_nosub.top {Z : State} {a0 : Array Value} {C K : String} (w : (Jvm.Cond.noSuperclass C).before a0 Z = true) (hn : C ≠ K) : own_nosub Z C K := by
  intro f c t hc ht
  obtain ⟨k, hk, -⟩ := Vm.findClass_spec hc
  have hs := Cond.noSuperclass_root w c k hc hk
  cases f with
  | zero => rfl
  | succ f => simp [Vm.isSubclassAux, own_necls hc ht hn, hk, hs]
theorem own_nosub.up {Z : State} {a0 : Array Value} {C P K : String} (w : (Jvm.Cond.superclass C P).before a0 Z = true) (hn : C ≠ K) (h : own_nosub Z P K) : own_nosub Z C K := by
  intro f c t hc ht
  obtain ⟨p, k, kp, h1, h2, h3, h4, -⟩ := Cond.superclass_spec hc w
  cases f with
  | zero => rfl
  | succ f => simp [Vm.isSubclassAux, own_necls hc ht hn, h2, h4, h f p t h1 ht]
theorem own_noins {Z : State} {h : Heap} {a : Addr} {a0 : Array Value} {C P K : String} {n : Nat} (E : Exa Z h a C) (wk : (Jvm.Cond.instantiable K n).before a0 Z = true) (wc : (Jvm.Cond.superclass C P).before a0 Z = true) (hn : C ≠ K) (hs : own_nosub Z C K) : Ins Z h a K false := by
  obtain ⟨cell, k, h1, h2, h3, h4, -⟩ := E
  obtain ⟨t, kt, i1, i2, i3, i4, -⟩ := Cond.instantiable_spec wk
  obtain ⟨p, k', kp, -, g2, -, -, g5, -⟩ := Cond.superclass_spec h2 wc
  cases h3.symm.trans g2
  refine ⟨cell, t, h1, i1, ?_⟩
  have i5 : kt.isInterface = false := by simp only [Bool.or_eq_false_iff] at i4; exact i4.1
  have q : Z.vm.assignable cell.cls t = false := by
    show Z.vm.assignableAux 256 cell.cls t = false
    simp [Vm.assignableAux, own_necls h2 i1 hn, h3, i2, g5, i3, i5, Vm.isSubclass, hs _ _ _ h2 i1]
  simp [h4, q]
theorem own_bit (y : Int32) : (1 : Int64) <<< (y &&& 0x3f).toInt64 ≠ 0 := by
  have h1 : (y &&& (0x3f : Int32)).toInt = y.toInt % 2 ^ 6 := Jvm.Kit.i32_mask y 0x3f (k := 6) (by decide) (by decide)
  have key : ∀ i : Fin 64, (1 : Int64) <<< (Int32.ofInt (i.1 : Int)).toInt64 ≠ 0 := by decide
  generalize y &&& (0x3f : Int32) = z at h1
  have h2 : 0 ≤ z.toInt ∧ z.toInt < 64 := by omega
  have e : Int32.ofInt ((z.toInt.toNat : Nat) : Int) = z := by rw [Int.toNat_of_nonneg h2.1]; exact Int32.ofInt_toInt z
  have := key ⟨z.toInt.toNat, by omega⟩
  rw [e] at this; exact this
theorem own_flip (x : Int64) (y : Int32) : ¬ x = x ^^^ ((1 : Int64) <<< (y &&& 0x3f).toInt64) := by
  intro h
  have h' : x ^^^ x = x ^^^ (x ^^^ ((1 : Int64) <<< (y &&& 0x3f).toInt64)) := congrArg (x ^^^ ·) h
  rw [← Int64.xor_assoc, Int64.xor_self, Int64.zero_xor] at h'
  exact own_bit y h'.symm
theorem dFI_0 : decode prog_196_method_1_code 0 = .ok (.aload_n 0, 1) := by decide +kernel
theorem dFI_1 : decode prog_196_method_1_code 1 = .ok (.invokespecial 1, 3) := by decide +kernel
theorem dFI_4 : decode prog_196_method_1_code 4 = .ok (.aload_n 0, 1) := by decide +kernel
theorem dFI_5 : decode prog_196_method_1_code 5 = .ok (.lload_n 1, 1) := by decide +kernel
theorem dFI_6 : decode prog_196_method_1_code 6 = .ok (.putfield 7, 3) := by decide +kernel
theorem dFI_9 : decode prog_196_method_1_code 9 = .ok (.return_, 1) := by decide +kernel
theorem pn_FI : plainName "org/ccsds/moims/mo/mal/structures/FineTime" = true := by first | (simp [plainName, overriddenIn]; done) | decide +kernel
theorem ef_FI (m : MethodId) (o0 : Addr) (q1 : Int64) : entryFrame m #[(.ref o0), (.long q1)] 3 = mkF m 0 #[.val (.ref o0), .val (.long q1), .second] [] := by first | (simp [entryFrame, mkF, argsToLocals, Value.category]; done) | rfl
def QFI (Z : State) (o0 : Addr) (q1 : Int64) (h0 : Heap) (n0 : Nat) (v : Option Value) (h : Heap) (L : List Loc) : Prop := v = none ∧ Fr n0 L ∧ Keep h0 h [o0] ∧ Exa Z h o0 "org/ccsds/moims/mo/mal/structures/FineTime" ∧ Fld Z h o0 "org/ccsds/moims/mo/mal/structures/FineTime" "value" "J" (.long q1)
set_option maxRecDepth 65536 in
set_option maxHeartbeats 40000000 in
theorem rmFI (l : Launch) (Z : State) (a0 : Array Value) (hw : ∀ d ∈ tables_1, d.before a0 Z = true) (ws : List Jvm.Cond) (o0 : Addr) (q1 : Int64) (h0 : Heap) (n0 : Nat) (Z0 : n0 ≤ h0.size) (E_o0 : Exa Z h0 o0 "org/ccsds/moims/mo/mal/structures/FineTime") (F_o0 : Fld Z h0 o0 "org/ccsds/moims/mo/mal/structures/FineTime" "value" "J" (.long (0 : Int64))) (g_o0 : n0 ≤ o0) :
    MetFree l (⟨"org/ccsds/moims/mo/mal/structures/FineTime", "<init>", "(J)V"⟩ : MethodName) (head1 (Jvm.Cond.code (⟨"org/ccsds/moims/mo/mal/structures/FineTime", "<init>", "(J)V"⟩ : MethodName) prog_196_method_1_code 3 none :: ws) ({ frames := 1, cells := 0, slots := 0, locals := 12 } : Room)) (fun a U => a = #[(.ref o0), (.long q1)] ∧ Z.Warmed39 U.vm ∧ U.heap = h0) (fun _ _ _ _ _ => True) (fun _ U o U' => ∃ v L, o = .returned v ∧ QFI Z o0 q1 h0 n0 v U'.heap L ∧ FrameEnd U o U' L ({ frames := 1, cells := 0, slots := 0, locals := 12 } : Room).cells ({ frames := 1, cells := 0, slots := 0, locals := 12 } : Room).slots) := by
  refine MetFree.of_bodySF (plainFor_of_name pn_FI) hisR ?_
  intro p e s m args below meth c s₁ Bd hml0 hP hK
  obtain ⟨rfl, hZ, hh⟩ := hP
  have hx := Bd.exec
  have hby := Bd.bytes
  have hml : c.maxLocals = 3 := hml0
  have hown : s.vm.findClass "org/ccsds/moims/mo/mal/structures/FineTime" = some m.cls := findClass_of_methodNamed Bd.named
  have hnm := (name_of_methodNamed Bd.named Bd.method).1
  have X0 : Stand p l e ({ frames := 1, cells := 0, slots := 0, locals := 12 } : Room) s m #[(.ref o0), (.long q1)] below meth c s₁ [] 0 0 := Stand.of_body Bd
  have e0 : s₁.heap = h0 := by rw [← hh, Bd.state]; rfl
  have N0 := Fr.nil n0
  show Goes p e below (fun o U' => ∃ v L, o = .returned v ∧ QFI Z o0 q1 h0 n0 v U'.heap L ∧ FrameEnd s o U' L ({ frames := 1, cells := 0, slots := 0, locals := 12 } : Room).cells ({ frames := 1, cells := 0, slots := 0, locals := 12 } : Room).slots) _
  refine Goes.go (fun t k => castTop (ef_FI m o0 q1) k) ?_
  show Goes p e below _ (s₁.setTop (mkF m 0 #[.val (.ref o0), .val (.long q1), .second] []))
  refine Goes.go (fun t => XS.aloadN X0.here hx rfl (hb hby dFI_0) rfl rfl ) ?_
  show Goes p e below _ (s₁.setTop (mkF m 1 #[.val (.ref o0), .val (.long q1), .second] [(.ref o0)]))
  obtain ⟨T1, X1, e1, st1⟩ := initO X0 hx hZ hown (hw _ (List.mem_of_getElem? (i := 24) rfl)) (hw _ (List.mem_of_getElem? (i := 7) rfl)) (hw _ (List.mem_of_getElem? (i := 8) rfl)) e0 (g := (mkF m 1 #[.val (.ref o0), .val (.long q1), .second] [(.ref o0)])) rfl (by rw [hml]; rfl) rfl (hb hby dFI_1) (by decide) (W := 0) (by show 2 * 0 + _ ≤ _; exact Nat.le_of_eq rfl) (by decide)
  refine Goes.go st1 ?_
  show Goes p e below _ (T1.setTop (mkF m 4 #[.val (.ref o0), .val (.long q1), .second] []))
  refine Goes.go (fun t => XS.aloadN X1.here hx rfl (hb hby dFI_4) rfl rfl ) ?_
  show Goes p e below _ (T1.setTop (mkF m 5 #[.val (.ref o0), .val (.long q1), .second] [(.ref o0)]))
  refine Goes.go (fun t => XS.lloadN X1.here hx rfl (hb hby dFI_5) rfl ) ?_
  show Goes p e below _ (T1.setTop (mkF m 6 #[.val (.ref o0), .val (.long q1), .second] [(.long q1), (.ref o0)]))
  obtain ⟨T2, h2, X2, e2, W2, st2⟩ := putF X1 hx hZ hown (host := "") (Or.inl (hw _ (List.mem_of_getElem? (i := 25) rfl))) Via.refl e1 F_o0 E_o0 (Or.inr ⟨(hw _ (List.mem_of_getElem? (i := 26) rfl)), rfl, hnm⟩) (hw _ (List.mem_of_getElem? (i := 19) rfl)) (ty := .long) (by decide) rfl rfl (g := (mkF m 6 #[.val (.ref o0), .val (.long q1), .second] [(.long q1), (.ref o0)])) rfl rfl (hb hby dFI_6)
  have F_value_o0_2 : Fld Z h2 o0 "org/ccsds/moims/mo/mal/structures/FineTime" "value" "J" (.long q1) := F_o0.same W2
  have Z2 : n0 ≤ h2.size := Nat.le_trans Z0 (Nat.le_of_eq W2.size.symm)
  have E_o0_2 : Exa Z h2 o0 "org/ccsds/moims/mo/mal/structures/FineTime" := E_o0.wr W2
  have Kz2 : Keep h0 h2 [o0] := (Keep.refl h0 [o0]).wr W2 (Or.inl (List.mem_of_getElem? (i := 0) rfl))
  have N2 := Fr.snoc X2 N0 g_o0
  refine Goes.go st2 ?_
  show Goes p e below _ (T2.setTop (mkF m 9 #[.val (.ref o0), .val (.long q1), .second] []))
  exact Goes.out X2 (fun _ => rfl) Bd.notSynchronized (fun fs hr => X2.returnOut hx Bd.returns (hb hby dFI_9) hr) (by rw [e2]; exact ⟨rfl, N2, Kz2, E_o0_2, F_value_o0_2⟩) (by decide) (by decide)
theorem dTI_0 : decode prog_224_method_1_code 0 = .ok (.aload_n 0, 1) := by decide +kernel
theorem dTI_1 : decode prog_224_method_1_code 1 = .ok (.invokespecial 1, 3) := by decide +kernel
theorem dTI_4 : decode prog_224_method_1_code 4 = .ok (.aload_n 0, 1) := by decide +kernel
theorem dTI_5 : decode prog_224_method_1_code 5 = .ok (.lload_n 1, 1) := by decide +kernel
theorem dTI_6 : decode prog_224_method_1_code 6 = .ok (.putfield 7, 3) := by decide +kernel
theorem dTI_9 : decode prog_224_method_1_code 9 = .ok (.return_, 1) := by decide +kernel
theorem pn_TI : plainName "org/ccsds/moims/mo/mal/structures/Time" = true := by first | (simp [plainName, overriddenIn]; done) | decide +kernel
theorem ef_TI (m : MethodId) (o0 : Addr) (q1 : Int64) : entryFrame m #[(.ref o0), (.long q1)] 3 = mkF m 0 #[.val (.ref o0), .val (.long q1), .second] [] := by first | (simp [entryFrame, mkF, argsToLocals, Value.category]; done) | rfl
def QTI (Z : State) (o0 : Addr) (q1 : Int64) (h0 : Heap) (n0 : Nat) (v : Option Value) (h : Heap) (L : List Loc) : Prop := v = none ∧ Fr n0 L ∧ Keep h0 h [o0] ∧ Exa Z h o0 "org/ccsds/moims/mo/mal/structures/Time" ∧ Fld Z h o0 "org/ccsds/moims/mo/mal/structures/Time" "value" "J" (.long q1)
set_option maxRecDepth 65536 in
set_option maxHeartbeats 40000000 in
theorem rmTI (l : Launch) (Z : State) (a0 : Array Value) (hw : ∀ d ∈ tables_1, d.before a0 Z = true) (ws : List Jvm.Cond) (o0 : Addr) (q1 : Int64) (h0 : Heap) (n0 : Nat) (Z0 : n0 ≤ h0.size) (E_o0 : Exa Z h0 o0 "org/ccsds/moims/mo/mal/structures/Time") (F_o0 : Fld Z h0 o0 "org/ccsds/moims/mo/mal/structures/Time" "value" "J" (.long (0 : Int64))) (g_o0 : n0 ≤ o0) :
    MetFree l (⟨"org/ccsds/moims/mo/mal/structures/Time", "<init>", "(J)V"⟩ : MethodName) (head1 (Jvm.Cond.code (⟨"org/ccsds/moims/mo/mal/structures/Time", "<init>", "(J)V"⟩ : MethodName) prog_224_method_1_code 3 none :: ws) ({ frames := 1, cells := 0, slots := 0, locals := 12 } : Room)) (fun a U => a = #[(.ref o0), (.long q1)] ∧ Z.Warmed39 U.vm ∧ U.heap = h0) (fun _ _ _ _ _ => True) (fun _ U o U' => ∃ v L, o = .returned v ∧ QTI Z o0 q1 h0 n0 v U'.heap L ∧ FrameEnd U o U' L ({ frames := 1, cells := 0, slots := 0, locals := 12 } : Room).cells ({ frames := 1, cells := 0, slots := 0, locals := 12 } : Room).slots) := by
  refine MetFree.of_bodySF (plainFor_of_name pn_TI) hisR ?_
  intro p e s m args below meth c s₁ Bd hml0 hP hK
  obtain ⟨rfl, hZ, hh⟩ := hP
  have hx := Bd.exec
  have hby := Bd.bytes
  have hml : c.maxLocals = 3 := hml0
  have hown : s.vm.findClass "org/ccsds/moims/mo/mal/structures/Time" = some m.cls := findClass_of_methodNamed Bd.named
  have hnm := (name_of_methodNamed Bd.named Bd.method).1
  have X0 : Stand p l e ({ frames := 1, cells := 0, slots := 0, locals := 12 } : Room) s m #[(.ref o0), (.long q1)] below meth c s₁ [] 0 0 := Stand.of_body Bd
  have e0 : s₁.heap = h0 := by rw [← hh, Bd.state]; rfl
  have N0 := Fr.nil n0
  show Goes p e below (fun o U' => ∃ v L, o = .returned v ∧ QTI Z o0 q1 h0 n0 v U'.heap L ∧ FrameEnd s o U' L ({ frames := 1, cells := 0, slots := 0, locals := 12 } : Room).cells ({ frames := 1, cells := 0, slots := 0, locals := 12 } : Room).slots) _
  refine Goes.go (fun t k => castTop (ef_TI m o0 q1) k) ?_
  show Goes p e below _ (s₁.setTop (mkF m 0 #[.val (.ref o0), .val (.long q1), .second] []))
  refine Goes.go (fun t => XS.aloadN X0.here hx rfl (hb hby dTI_0) rfl rfl ) ?_
  show Goes p e below _ (s₁.setTop (mkF m 1 #[.val (.ref o0), .val (.long q1), .second] [(.ref o0)]))
  obtain ⟨T1, X1, e1, st1⟩ := initO X0 hx hZ hown (hw _ (List.mem_of_getElem? (i := 6) rfl)) (hw _ (List.mem_of_getElem? (i := 7) rfl)) (hw _ (List.mem_of_getElem? (i := 8) rfl)) e0 (g := (mkF m 1 #[.val (.ref o0), .val (.long q1), .second] [(.ref o0)])) rfl (by rw [hml]; rfl) rfl (hb hby dTI_1) (by decide) (W := 0) (by show 2 * 0 + _ ≤ _; exact Nat.le_of_eq rfl) (by decide)
  refine Goes.go st1 ?_
  show Goes p e below _ (T1.setTop (mkF m 4 #[.val (.ref o0), .val (.long q1), .second] []))
  refine Goes.go (fun t => XS.aloadN X1.here hx rfl (hb hby dTI_4) rfl rfl ) ?_
  show Goes p e below _ (T1.setTop (mkF m 5 #[.val (.ref o0), .val (.long q1), .second] [(.ref o0)]))
  refine Goes.go (fun t => XS.lloadN X1.here hx rfl (hb hby dTI_5) rfl ) ?_
  show Goes p e below _ (T1.setTop (mkF m 6 #[.val (.ref o0), .val (.long q1), .second] [(.long q1), (.ref o0)]))
  obtain ⟨T2, h2, X2, e2, W2, st2⟩ := putF X1 hx hZ hown (host := "") (Or.inl (hw _ (List.mem_of_getElem? (i := 9) rfl))) Via.refl e1 F_o0 E_o0 (Or.inr ⟨(hw _ (List.mem_of_getElem? (i := 10) rfl)), rfl, hnm⟩) (hw _ (List.mem_of_getElem? (i := 1) rfl)) (ty := .long) (by decide) rfl rfl (g := (mkF m 6 #[.val (.ref o0), .val (.long q1), .second] [(.long q1), (.ref o0)])) rfl rfl (hb hby dTI_6)
  have F_value_o0_2 : Fld Z h2 o0 "org/ccsds/moims/mo/mal/structures/Time" "value" "J" (.long q1) := F_o0.same W2
  have Z2 : n0 ≤ h2.size := Nat.le_trans Z0 (Nat.le_of_eq W2.size.symm)
  have E_o0_2 : Exa Z h2 o0 "org/ccsds/moims/mo/mal/structures/Time" := E_o0.wr W2
  have Kz2 : Keep h0 h2 [o0] := (Keep.refl h0 [o0]).wr W2 (Or.inl (List.mem_of_getElem? (i := 0) rfl))
  have N2 := Fr.snoc X2 N0 g_o0
  refine Goes.go st2 ?_
  show Goes p e below _ (T2.setTop (mkF m 9 #[.val (.ref o0), .val (.long q1), .second] []))
  exact Goes.out X2 (fun _ => rfl) Bd.notSynchronized (fun fs hr => X2.returnOut hx Bd.returns (hb hby dTI_9) hr) (by rw [e2]; exact ⟨rfl, N2, Kz2, E_o0_2, F_value_o0_2⟩) (by decide) (by decide)
theorem dNU_0 : decode jdk_18_method_1_code 0 = .ok (.aload_n 0, 1) := by decide +kernel
theorem dNU_1 : decode jdk_18_method_1_code 1 = .ok (.invokespecial 1, 3) := by decide +kernel
theorem dNU_4 : decode jdk_18_method_1_code 4 = .ok (.return_, 1) := by decide +kernel
theorem pn_NU : plainName "java/lang/Number" = true := by first | (simp [plainName, overriddenIn]; done) | decide +kernel
theorem ef_NU (m : MethodId) (o0 : Addr) : entryFrame m #[(.ref o0)] 1 = mkF m 0 #[.val (.ref o0)] [] := by first | (simp [entryFrame, mkF, argsToLocals, Value.category]; done) | rfl
def QNU (Z : State) (o0 : Addr) (h0 : Heap) (n0 : Nat) (v : Option Value) (h : Heap) (L : List Loc) : Prop := v = none ∧ Fr n0 L ∧ h = h0
set_option maxRecDepth 65536 in
set_option maxHeartbeats 40000000 in
theorem rmNU (l : Launch) (Z : State) (a0 : Array Value) (hw : ∀ d ∈ tables_1, d.before a0 Z = true) (ws : List Jvm.Cond) (o0 : Addr) (h0 : Heap) (n0 : Nat) (Z0 : n0 ≤ h0.size) :
    MetFree l (⟨"java/lang/Number", "<init>", "()V"⟩ : MethodName) (head1 (Jvm.Cond.code (⟨"java/lang/Number", "<init>", "()V"⟩ : MethodName) jdk_18_method_1_code 1 none :: ws) ({ frames := 1, cells := 0, slots := 0, locals := 12 } : Room)) (fun a U => a = #[(.ref o0)] ∧ Z.Warmed39 U.vm ∧ U.heap = h0) (fun _ _ _ _ _ => True) (fun _ U o U' => ∃ v L, o = .returned v ∧ QNU Z o0 h0 n0 v U'.heap L ∧ FrameEnd U o U' L ({ frames := 1, cells := 0, slots := 0, locals := 12 } : Room).cells ({ frames := 1, cells := 0, slots := 0, locals := 12 } : Room).slots) := by
  refine MetFree.of_bodySF (plainFor_of_name pn_NU) hisR ?_
  intro p e s m args below meth c s₁ Bd hml0 hP hK
  obtain ⟨rfl, hZ, hh⟩ := hP
  have hx := Bd.exec
  have hby := Bd.bytes
  have hml : c.maxLocals = 1 := hml0
  have hown : s.vm.findClass "java/lang/Number" = some m.cls := findClass_of_methodNamed Bd.named
  have hnm := (name_of_methodNamed Bd.named Bd.method).1
  have X0 : Stand p l e ({ frames := 1, cells := 0, slots := 0, locals := 12 } : Room) s m #[(.ref o0)] below meth c s₁ [] 0 0 := Stand.of_body Bd
  have e0 : s₁.heap = h0 := by rw [← hh, Bd.state]; rfl
  have N0 := Fr.nil n0
  show Goes p e below (fun o U' => ∃ v L, o = .returned v ∧ QNU Z o0 h0 n0 v U'.heap L ∧ FrameEnd s o U' L ({ frames := 1, cells := 0, slots := 0, locals := 12 } : Room).cells ({ frames := 1, cells := 0, slots := 0, locals := 12 } : Room).slots) _
  refine Goes.go (fun t k => castTop (ef_NU m o0) k) ?_
  show Goes p e below _ (s₁.setTop (mkF m 0 #[.val (.ref o0)] []))
  refine Goes.go (fun t => XS.aloadN X0.here hx rfl (hb hby dNU_0) rfl rfl ) ?_
  show Goes p e below _ (s₁.setTop (mkF m 1 #[.val (.ref o0)] [(.ref o0)]))
  obtain ⟨T1, X1, e1, st1⟩ := initO X0 hx hZ hown (hw _ (List.mem_of_getElem? (i := 47) rfl)) (hw _ (List.mem_of_getElem? (i := 7) rfl)) (hw _ (List.mem_of_getElem? (i := 8) rfl)) e0 (g := (mkF m 1 #[.val (.ref o0)] [(.ref o0)])) rfl (by rw [hml]; rfl) rfl (hb hby dNU_1) (by decide) (W := 0) (by show 2 * 0 + _ ≤ _; exact Nat.le_of_eq rfl) (by decide)
  refine Goes.go st1 ?_
  show Goes p e below _ (T1.setTop (mkF m 4 #[.val (.ref o0)] []))
  exact Goes.out X1 (fun _ => rfl) Bd.notSynchronized (fun fs hr => X1.returnOut hx Bd.returns (hb hby dNU_4) hr) ⟨rfl, N0, e1⟩ (by decide) (by decide)
theorem dLI_0 : decode jdk_35_method_26_code 0 = .ok (.aload_n 0, 1) := by decide +kernel
theorem dLI_1 : decode jdk_35_method_26_code 1 = .ok (.invokespecial 270, 3) := by decide +kernel
theorem dLI_4 : decode jdk_35_method_26_code 4 = .ok (.aload_n 0, 1) := by decide +kernel
theorem dLI_5 : decode jdk_35_method_26_code 5 = .ok (.lload_n 1, 1) := by decide +kernel
theorem dLI_6 : decode jdk_35_method_26_code 6 = .ok (.putfield 273, 3) := by decide +kernel
theorem dLI_9 : decode jdk_35_method_26_code 9 = .ok (.return_, 1) := by decide +kernel
theorem pn_LI : plainName "java/lang/Long" = true := by first | (simp [plainName, overriddenIn]; done) | decide +kernel
theorem pdLI_0 : parseMethodDescriptor "()V" = some ⟨[], none⟩ := by decide +kernel
theorem ef_LI (m : MethodId) (o0 : Addr) (q1 : Int64) : entryFrame m #[(.ref o0), (.long q1)] 3 = mkF m 0 #[.val (.ref o0), .val (.long q1), .second] [] := by first | (simp [entryFrame, mkF, argsToLocals, Value.category]; done) | rfl
def QLI (Z : State) (o0 : Addr) (q1 : Int64) (h0 : Heap) (n0 : Nat) (v : Option Value) (h : Heap) (L : List Loc) : Prop := v = none ∧ Fr n0 L ∧ Keep h0 h [o0] ∧ Exa Z h o0 "java/lang/Long" ∧ Fld Z h o0 "java/lang/Long" "value" "J" (.long q1)
set_option maxRecDepth 65536 in
set_option maxHeartbeats 40000000 in
theorem rmLI (l : Launch) (Z : State) (a0 : Array Value) (hw : ∀ d ∈ tables_1, d.before a0 Z = true) (ws : List Jvm.Cond) (o0 : Addr) (q1 : Int64) (h0 : Heap) (n0 : Nat) (Z0 : n0 ≤ h0.size) (E_o0 : Exa Z h0 o0 "java/lang/Long") (F_o0 : Fld Z h0 o0 "java/lang/Long" "value" "J" (.long (0 : Int64))) (g_o0 : n0 ≤ o0) :
    MetFree l (⟨"java/lang/Long", "<init>", "(J)V"⟩ : MethodName) (head1 (Jvm.Cond.code (⟨"java/lang/Long", "<init>", "(J)V"⟩ : MethodName) jdk_35_method_26_code 3 none :: ws) ({ frames := 2, cells := 0, slots := 0, locals := 24 } : Room)) (fun a U => a = #[(.ref o0), (.long q1)] ∧ Z.Warmed39 U.vm ∧ U.heap = h0) (fun _ _ _ _ _ => True) (fun _ U o U' => ∃ v L, o = .returned v ∧ QLI Z o0 q1 h0 n0 v U'.heap L ∧ FrameEnd U o U' L ({ frames := 2, cells := 0, slots := 0, locals := 24 } : Room).cells ({ frames := 2, cells := 0, slots := 0, locals := 24 } : Room).slots) := by
  refine MetFree.of_bodySF (plainFor_of_name pn_LI) hisR ?_
  intro p e s m args below meth c s₁ Bd hml0 hP hK
  obtain ⟨rfl, hZ, hh⟩ := hP
  have hx := Bd.exec
  have hby := Bd.bytes
  have hml : c.maxLocals = 3 := hml0
  have hown : s.vm.findClass "java/lang/Long" = some m.cls := findClass_of_methodNamed Bd.named
  have hnm := (name_of_methodNamed Bd.named Bd.method).1
  have X0 : Stand p l e ({ frames := 2, cells := 0, slots := 0, locals := 24 } : Room) s m #[(.ref o0), (.long q1)] below meth c s₁ [] 0 0 := Stand.of_body Bd
  have e0 : s₁.heap = h0 := by rw [← hh, Bd.state]; rfl
  have N0 := Fr.nil n0
  show Goes p e below (fun o U' => ∃ v L, o = .returned v ∧ QLI Z o0 q1 h0 n0 v U'.heap L ∧ FrameEnd s o U' L ({ frames := 2, cells := 0, slots := 0, locals := 24 } : Room).cells ({ frames := 2, cells := 0, slots := 0, locals := 24 } : Room).slots) _
  refine Goes.go (fun t k => castTop (ef_LI m o0 q1) k) ?_
  show Goes p e below _ (s₁.setTop (mkF m 0 #[.val (.ref o0), .val (.long q1), .second] []))
  refine Goes.go (fun t => XS.aloadN X0.here hx rfl (hb hby dLI_0) rfl rfl ) ?_
  show Goes p e below _ (s₁.setTop (mkF m 1 #[.val (.ref o0), .val (.long q1), .second] [(.ref o0)]))
  obtain ⟨_, _, ⟨T1, L1, k1, n1⟩, -, X1, ⟨Lc1, hQ1, l1, y1, z1⟩, st1⟩ := X0.specialBack hx (y := (⟨"java/lang/Number", "<init>", "()V"⟩ : MethodName)) rfl hown (mvT hZ (hw _ (List.mem_of_getElem? (i := 41) rfl))) (mvT hZ (hw _ (List.mem_of_getElem? (i := 42) rfl))) (mvT hZ (hw _ (List.mem_of_getElem? (i := 46) rfl))) (by decide) (backOf (W := 0) (rmNU l Z a0 hw [] o0 h0 n0 Z0) hZ (hw _ (List.mem_of_getElem? (i := 46) rfl)) (hw _ (List.mem_of_getElem? (i := 45) rfl)) (by decide) (by decide)) (g := (mkF m 1 #[.val (.ref o0), .val (.long q1), .second] [(.ref o0)])) rfl (by rw [hml]; rfl) (Steps.refl _) (a := o0) (argsL := []) (rest := []) (lenOf pdLI_0 rfl) rfl (by show 2 * 0 + _ ≤ _; exact Nat.le_of_eq rfl) (hb hby dLI_1) (fun _ _ => ⟨rfl, e0, (by decide : 0 + 0 ≤ _), (by decide : 0 + 0 ≤ _)⟩)
  dsimp only [Pt.U, Pt.locs, Pt.cells, Pt.slots] at X1 l1 y1 z1 st1 hQ1
  subst l1 y1 z1
  obtain ⟨rfl, N1q, e1q⟩ := hQ1
  have N1 := Fr.app N0 N1q
  refine Goes.via st1 ?_
  have Z1 : n0 ≤ T1.heap.size := by rw [e1q]; exact Z0
  have E_o0_1 : Exa Z T1.heap o0 "java/lang/Long" := by rw [e1q]; exact E_o0
  have F_value_o0_1 : Fld Z T1.heap o0 "java/lang/Long" "value" "J" (.long (0 : Int64)) := by rw [e1q]; exact F_o0
  have Kz1 : Keep h0 T1.heap [o0] := by rw [e1q]; exact (Keep.refl h0 [o0])
  show Goes p e below _ (T1.setTop (mkF m 4 #[.val (.ref o0), .val (.long q1), .second] []))
  refine Goes.go (fun t => XS.aloadN X1.here hx rfl (hb hby dLI_4) rfl rfl ) ?_
  show Goes p e below _ (T1.setTop (mkF m 5 #[.val (.ref o0), .val (.long q1), .second] [(.ref o0)]))
  refine Goes.go (fun t => XS.lloadN X1.here hx rfl (hb hby dLI_5) rfl ) ?_
  show Goes p e below _ (T1.setTop (mkF m 6 #[.val (.ref o0), .val (.long q1), .second] [(.long q1), (.ref o0)]))
  obtain ⟨T2, h2, X2, e2, W2, st2⟩ := putF X1 hx hZ hown (host := "") (Or.inl (hw _ (List.mem_of_getElem? (i := 48) rfl))) Via.refl rfl F_value_o0_1 E_o0_1 (Or.inr ⟨(hw _ (List.mem_of_getElem? (i := 49) rfl)), rfl, hnm⟩) (hw _ (List.mem_of_getElem? (i := 36) rfl)) (ty := .long) (by decide) rfl rfl (g := (mkF m 6 #[.val (.ref o0), .val (.long q1), .second] [(.long q1), (.ref o0)])) rfl rfl (hb hby dLI_6)
  have F_value_o0_2 : Fld Z h2 o0 "java/lang/Long" "value" "J" (.long q1) := F_value_o0_1.same W2
  have Z2 : n0 ≤ h2.size := Nat.le_trans Z1 (Nat.le_of_eq W2.size.symm)
  have E_o0_2 : Exa Z h2 o0 "java/lang/Long" := E_o0_1.wr W2
  have Kz2 : Keep h0 h2 [o0] := Kz1.wr W2 (Or.inl (List.mem_of_getElem? (i := 0) rfl))
  have N2 := Fr.snoc X2 N1 g_o0
  refine Goes.go st2 ?_
  show Goes p e below _ (T2.setTop (mkF m 9 #[.val (.ref o0), .val (.long q1), .second] []))
  exact Goes.out X2 (fun _ => rfl) Bd.notSynchronized (fun fs hr => X2.returnOut hx Bd.returns (hb hby dLI_9) hr) (by rw [e2]; exact ⟨rfl, N2, Kz2, E_o0_2, F_value_o0_2⟩) (by decide) (by decide)
theorem dVO_0 : decode jdk_35_method_24_code 0 = .ok (.sipush 128, 3) := by decide +kernel
theorem dVO_3 : decode jdk_35_method_24_code 3 = .ok (.istore_n 2, 1) := by decide +kernel
theorem dVO_4 : decode jdk_35_method_24_code 4 = .ok (.lload_n 0, 1) := by decide +kernel
theorem dVO_5 : decode jdk_35_method_24_code 5 = .ok (.ldc2_w 230, 3) := by decide +kernel
theorem dVO_8 : decode jdk_35_method_24_code 8 = .ok (.lcmp, 1) := by decide +kernel
theorem dVO_9 : decode jdk_35_method_24_code 9 = .ok (.ifCond .lt 22, 3) := by decide +kernel
theorem dVO_12 : decode jdk_35_method_24_code 12 = .ok (.lload_n 0, 1) := by decide +kernel
theorem dVO_13 : decode jdk_35_method_24_code 13 = .ok (.ldc2_w 232, 3) := by decide +kernel
theorem dVO_16 : decode jdk_35_method_24_code 16 = .ok (.lcmp, 1) := by decide +kernel
theorem dVO_17 : decode jdk_35_method_24_code 17 = .ok (.ifCond .gt 14, 3) := by decide +kernel
theorem dVO_20 : decode jdk_35_method_24_code 20 = .ok (.getstatic 234, 3) := by decide +kernel
theorem dVO_23 : decode jdk_35_method_24_code 23 = .ok (.lload_n 0, 1) := by decide +kernel
theorem dVO_24 : decode jdk_35_method_24_code 24 = .ok (.l2i, 1) := by decide +kernel
theorem dVO_25 : decode jdk_35_method_24_code 25 = .ok (.sipush 128, 3) := by decide +kernel
theorem dVO_28 : decode jdk_35_method_24_code 28 = .ok (.iadd, 1) := by decide +kernel
theorem dVO_29 : decode jdk_35_method_24_code 29 = .ok (.aaload, 1) := by decide +kernel
theorem dVO_30 : decode jdk_35_method_24_code 30 = .ok (.areturn, 1) := by decide +kernel
theorem dVO_31 : decode jdk_35_method_24_code 31 = .ok (.new 1, 3) := by decide +kernel
theorem dVO_34 : decode jdk_35_method_24_code 34 = .ok (.dup, 1) := by decide +kernel
theorem dVO_35 : decode jdk_35_method_24_code 35 = .ok (.lload_n 0, 1) := by decide +kernel
theorem dVO_36 : decode jdk_35_method_24_code 36 = .ok (.invokespecial 240, 3) := by decide +kernel
theorem dVO_39 : decode jdk_35_method_24_code 39 = .ok (.areturn, 1) := by decide +kernel
theorem pn_VO : plainName "java/lang/Long" = true := by first | (simp [plainName, overriddenIn]; done) | decide +kernel
theorem pdVO_0 : parseMethodDescriptor "(J)V" = some ⟨[.long], none⟩ := by decide +kernel
theorem ef_VO (m : MethodId) (q0 : Int64) : entryFrame m #[(.long q0)] 3 = mkF m 0 #[.val (.long q0), .second, .unset] [] := by first | (simp [entryFrame, mkF, argsToLocals, Value.category]; done) | rfl
def QVO (Z : State) (q0 : Int64) (w : Addr) (cl : Cell) (h0 : Heap) (n0 : Nat) (v : Option Value) (h : Heap) (L : List Loc) : Prop := ∃ b : Addr, v = some (.ref b) ∧ Fr n0 L ∧ Keep h0 h [] ∧ Exa Z h b "java/lang/Long"
set_option maxRecDepth 65536 in
set_option maxHeartbeats 40000000 in
theorem rmVO (l : Launch) (Z : State) (a0 : Array Value) (hw : ∀ d ∈ tables_1, d.before a0 Z = true) (ws : List Jvm.Cond) (q0 : Int64) (w : Addr) (cl : Cell) (h0 : Heap) (n0 : Nat) (Z0 : n0 ≤ h0.size) (O0 : Old Z n0 h0) (S_c : Sta Z Z.heap "java/lang/Long$LongCache" "cache" "[Ljava/lang/Long;" (.ref w)) (A_c : Arr Z Z.heap w cl (.object "java/lang/Long")) (Sz_c : cl.slots.size = 256) (El_c : ∀ i, i < 256 → ∃ b : Addr, cl.slots[i]? = some (.ref b) ∧ Exa Z Z.heap b "java/lang/Long") :
    MetFree l (⟨"java/lang/Long", "valueOf", "(J)Ljava/lang/Long;"⟩ : MethodName) (head1 (Jvm.Cond.code (⟨"java/lang/Long", "valueOf", "(J)Ljava/lang/Long;"⟩ : MethodName) jdk_35_method_24_code 3 (some (.object "java/lang/Long")) :: ws) ({ frames := 3, cells := 1, slots := 1, locals := 39 } : Room)) (fun a U => a = #[(.long q0)] ∧ Z.Warmed39 U.vm ∧ U.heap = h0) (fun _ _ _ _ _ => True) (fun _ U o U' => ∃ v L, o = .returned v ∧ QVO Z q0 w cl h0 n0 v U'.heap L ∧ FrameEnd U o U' L ({ frames := 3, cells := 1, slots := 1, locals := 39 } : Room).cells ({ frames := 3, cells := 1, slots := 1, locals := 39 } : Room).slots) := by
  refine MetFree.of_bodySF (plainFor_of_name pn_VO) hisR ?_
  intro p e s m args below meth c s₁ Bd hml0 hP hK
  obtain ⟨rfl, hZ, hh⟩ := hP
  have hx := Bd.exec
  have hby := Bd.bytes
  have hml : c.maxLocals = 3 := hml0
  have hown : s.vm.findClass "java/lang/Long" = some m.cls := findClass_of_methodNamed Bd.named
  have hnm := (name_of_methodNamed Bd.named Bd.method).1
  have X0 : Stand p l e ({ frames := 3, cells := 1, slots := 1, locals := 39 } : Room) s m #[(.long q0)] below meth c s₁ [] 0 0 := Stand.of_body Bd
  have e0 : s₁.heap = h0 := by rw [← hh, Bd.state]; rfl
  have N0 := Fr.nil n0
  show Goes p e below (fun o U' => ∃ v L, o = .returned v ∧ QVO Z q0 w cl h0 n0 v U'.heap L ∧ FrameEnd s o U' L ({ frames := 3, cells := 1, slots := 1, locals := 39 } : Room).cells ({ frames := 3, cells := 1, slots := 1, locals := 39 } : Room).slots) _
  refine Goes.go (fun t k => castTop (ef_VO m q0) k) ?_
  show Goes p e below _ (s₁.setTop (mkF m 0 #[.val (.long q0), .second, .unset] []))
  refine Goes.go (fun t => XS.sipush X0.here hx rfl (hb hby dVO_0)) ?_
  show Goes p e below _ (s₁.setTop (mkF m 3 #[.val (.long q0), .second, .unset] [(.int (128 : Int32))]))
  refine Goes.go (fun t => XS.istoreN X0.here hx rfl (hb hby dVO_3) rfl (l' := #[.val (.long q0), .second, .val (.int (128 : Int32))]) rfl) ?_
  show Goes p e below _ (s₁.setTop (mkF m 4 #[.val (.long q0), .second, .val (.int (128 : Int32))] []))
  refine Goes.go (fun t => XS.lloadN X0.here hx rfl (hb hby dVO_4) rfl ) ?_
  show Goes p e below _ (s₁.setTop (mkF m 5 #[.val (.long q0), .second, .val (.int (128 : Int32))] [(.long q0)]))
  refine Goes.go (fun t => X0.ldc2J hx hown (mvT hZ (hw _ (List.mem_of_getElem? (i := 33) rfl))) rfl (hb hby dVO_5)) ?_
  show Goes p e below _ (s₁.setTop (mkF m 8 #[.val (.long q0), .second, .val (.int (128 : Int32))] [(.long (-128 : Int64)), (.long q0)]))
  refine Goes.go (fun t => XS.lcmp X0.here hx rfl (hb hby dVO_8) rfl) ?_
  show Goes p e below _ (s₁.setTop (mkF m 9 #[.val (.long q0), .second, .val (.int (128 : Int32))] [(.int (lcmpW q0 (-128 : Int64)))]))
  by_cases hc9 : q0 < (-128 : Int64)
  · refine Goes.go (fun t => XS.ifYes X0.here hx rfl (pc0 := 9) (pc' := 31) rfl (hb hby dVO_9) rfl (Jvm.Free.XT.ll_lt_t hc9) (by decide) (by decide)) ?_
    show Goes p e below _ (s₁.setTop (mkF m 31 #[.val (.long q0), .second, .val (.int (128 : Int32))] []))
    obtain ⟨T1, h1, X1, e1, E1, A1, D1, -, st1⟩ := newO X0 hx hZ hown (hw _ (List.mem_of_getElem? (i := 35) rfl)) (hw _ (List.mem_of_getElem? (i := 36) rfl)) (hw _ (List.mem_of_getElem? (i := 31) rfl)) e0 (g := (mkF m 31 #[.val (.long q0), .second, .val (.int (128 : Int32))] [])) rfl (hb hby dVO_31) (by decide) (by decide)
    obtain ⟨bn, gq_bn⟩ : ∃ z, z = h0.size := ⟨_, rfl⟩
    rw [← gq_bn] at A1 D1 st1
    have g_bn : n0 ≤ bn := Nat.le_trans Z0 (Nat.le_of_eq gq_bn.symm)
    have sz_bn : h0.size ≤ bn := Nat.le_trans (Nat.le_refl _) (Nat.le_of_eq gq_bn.symm)
    have Kz1 : Keep h0 h1 [] := (Keep.refl h0 []).ext E1
    have Z1 : n0 ≤ h1.size := Nat.le_trans Z0 E1.1
    have F_value_bn_1 : Fld Z h1 bn "java/lang/Long" "value" "J" (.long (0 : Int64)) := D1 (Or.inr (hw _ (List.mem_of_getElem? (i := 49) rfl))) (ty := .long) (by decide)
    refine Goes.go st1 ?_
    show Goes p e below _ (T1.setTop (mkF m 34 #[.val (.long q0), .second, .val (.int (128 : Int32))] [(.ref bn)]))
    refine Goes.go (fun t => XS.dup X1.here hx rfl (hb hby dVO_34) rfl rfl) ?_
    show Goes p e below _ (T1.setTop (mkF m 35 #[.val (.long q0), .second, .val (.int (128 : Int32))] [(.ref bn), (.ref bn)]))
    refine Goes.go (fun t => XS.lloadN X1.here hx rfl (hb hby dVO_35) rfl ) ?_
    show Goes p e below _ (T1.setTop (mkF m 36 #[.val (.long q0), .second, .val (.int (128 : Int32))] [(.long q0), (.ref bn), (.ref bn)]))
    obtain ⟨_, _, ⟨T2, L2, k2, n2⟩, -, X2, ⟨Lc2, hQ2, l2, y2, z2⟩, st2⟩ := X1.specialBack hx (y := (⟨"java/lang/Long", "<init>", "(J)V"⟩ : MethodName)) rfl hown (mvT hZ (hw _ (List.mem_of_getElem? (i := 37) rfl))) (mvT hZ (hw _ (List.mem_of_getElem? (i := 38) rfl))) (mvT hZ (hw _ (List.mem_of_getElem? (i := 40) rfl))) (by decide) (backOf (W := 1) (rmLI l Z a0 hw [] bn q0 h1 n0 Z1 A1 F_value_bn_1 g_bn) hZ (hw _ (List.mem_of_getElem? (i := 40) rfl)) (hw _ (List.mem_of_getElem? (i := 31) rfl)) (by decide) (by decide)) (g := (mkF m 36 #[.val (.long q0), .second, .val (.int (128 : Int32))] [(.long q0), (.ref bn), (.ref bn)])) rfl (by rw [hml]; rfl) (Steps.refl _) (a := bn) (argsL := [(.long q0)]) (rest := [(.ref bn)]) (lenOf pdVO_0 rfl) rfl (by show 2 * 0 + _ ≤ _; exact Nat.le_of_eq rfl) (hb hby dVO_36) (fun _ _ => ⟨rfl, e1, (by decide : 1 + 0 ≤ _), (by decide : 1 + 0 ≤ _)⟩)
    dsimp only [Pt.U, Pt.locs, Pt.cells, Pt.slots] at X2 l2 y2 z2 st2 hQ2
    subst l2 y2 z2
    obtain ⟨rfl, N2q, K2, E2a, F2a⟩ := hQ2
    have N2 := Fr.app N0 N2q
    refine Goes.via st2 ?_
    have Kz2 : Keep h0 T2.heap [] := Kz1.trans K2 (allS (Or.inr sz_bn) all0)
    show Goes p e below _ (T2.setTop (mkF m 39 #[.val (.long q0), .second, .val (.int (128 : Int32))] [(.ref bn)]))
    exact Goes.out X2 (fun h => by rw [Bd.returns] at h; cases h) Bd.notSynchronized (fun fs hr => retOut X2 hx Bd.returns rfl (Or.inr (Or.inr (Or.inr (Or.inr ⟨rfl, rfl, rfl⟩)))) (hb hby dVO_39) hr) ⟨bn, rfl, N2, Kz2, E2a⟩ (by decide) (by decide)
  · refine Goes.go (fun t => XS.ifNo X0.here hx rfl (hb hby dVO_9) rfl (Jvm.Free.XT.ll_lt_f hc9)) ?_
    show Goes p e below _ (s₁.setTop (mkF m 12 #[.val (.long q0), .second, .val (.int (128 : Int32))] []))
    refine Goes.go (fun t => XS.lloadN X0.here hx rfl (hb hby dVO_12) rfl ) ?_
    show Goes p e below _ (s₁.setTop (mkF m 13 #[.val (.long q0), .second, .val (.int (128 : Int32))] [(.long q0)]))
    refine Goes.go (fun t => X0.ldc2J hx hown (mvT hZ (hw _ (List.mem_of_getElem? (i := 34) rfl))) rfl (hb hby dVO_13)) ?_
    show Goes p e below _ (s₁.setTop (mkF m 16 #[.val (.long q0), .second, .val (.int (128 : Int32))] [(.long (127 : Int64)), (.long q0)]))
    refine Goes.go (fun t => XS.lcmp X0.here hx rfl (hb hby dVO_16) rfl) ?_
    show Goes p e below _ (s₁.setTop (mkF m 17 #[.val (.long q0), .second, .val (.int (128 : Int32))] [(.int (lcmpW q0 (127 : Int64)))]))
    by_cases hc17 : (127 : Int64) < q0
    · refine Goes.go (fun t => XS.ifYes X0.here hx rfl (pc0 := 17) (pc' := 31) rfl (hb hby dVO_17) rfl (Jvm.Free.XT.ll_gt_t hc17) (by decide) (by decide)) ?_
      show Goes p e below _ (s₁.setTop (mkF m 31 #[.val (.long q0), .second, .val (.int (128 : Int32))] []))
      obtain ⟨T3, h3, X3, e3, E3, A3, D3, -, st3⟩ := newO X0 hx hZ hown (hw _ (List.mem_of_getElem? (i := 35) rfl)) (hw _ (List.mem_of_getElem? (i := 36) rfl)) (hw _ (List.mem_of_getElem? (i := 31) rfl)) e0 (g := (mkF m 31 #[.val (.long q0), .second, .val (.int (128 : Int32))] [])) rfl (hb hby dVO_31) (by decide) (by decide)
      obtain ⟨bn, gq_bn⟩ : ∃ z, z = h0.size := ⟨_, rfl⟩
      rw [← gq_bn] at A3 D3 st3
      have g_bn : n0 ≤ bn := Nat.le_trans Z0 (Nat.le_of_eq gq_bn.symm)
      have sz_bn : h0.size ≤ bn := Nat.le_trans (Nat.le_refl _) (Nat.le_of_eq gq_bn.symm)
      have Kz3 : Keep h0 h3 [] := (Keep.refl h0 []).ext E3
      have Z3 : n0 ≤ h3.size := Nat.le_trans Z0 E3.1
      have F_value_bn_3 : Fld Z h3 bn "java/lang/Long" "value" "J" (.long (0 : Int64)) := D3 (Or.inr (hw _ (List.mem_of_getElem? (i := 49) rfl))) (ty := .long) (by decide)
      refine Goes.go st3 ?_
      show Goes p e below _ (T3.setTop (mkF m 34 #[.val (.long q0), .second, .val (.int (128 : Int32))] [(.ref bn)]))
      refine Goes.go (fun t => XS.dup X3.here hx rfl (hb hby dVO_34) rfl rfl) ?_
      show Goes p e below _ (T3.setTop (mkF m 35 #[.val (.long q0), .second, .val (.int (128 : Int32))] [(.ref bn), (.ref bn)]))
      refine Goes.go (fun t => XS.lloadN X3.here hx rfl (hb hby dVO_35) rfl ) ?_
      show Goes p e below _ (T3.setTop (mkF m 36 #[.val (.long q0), .second, .val (.int (128 : Int32))] [(.long q0), (.ref bn), (.ref bn)]))
      obtain ⟨_, _, ⟨T4, L4, k4, n4⟩, -, X4, ⟨Lc4, hQ4, l4, y4, z4⟩, st4⟩ := X3.specialBack hx (y := (⟨"java/lang/Long", "<init>", "(J)V"⟩ : MethodName)) rfl hown (mvT hZ (hw _ (List.mem_of_getElem? (i := 37) rfl))) (mvT hZ (hw _ (List.mem_of_getElem? (i := 38) rfl))) (mvT hZ (hw _ (List.mem_of_getElem? (i := 40) rfl))) (by decide) (backOf (W := 1) (rmLI l Z a0 hw [] bn q0 h3 n0 Z3 A3 F_value_bn_3 g_bn) hZ (hw _ (List.mem_of_getElem? (i := 40) rfl)) (hw _ (List.mem_of_getElem? (i := 31) rfl)) (by decide) (by decide)) (g := (mkF m 36 #[.val (.long q0), .second, .val (.int (128 : Int32))] [(.long q0), (.ref bn), (.ref bn)])) rfl (by rw [hml]; rfl) (Steps.refl _) (a := bn) (argsL := [(.long q0)]) (rest := [(.ref bn)]) (lenOf pdVO_0 rfl) rfl (by show 2 * 0 + _ ≤ _; exact Nat.le_of_eq rfl) (hb hby dVO_36) (fun _ _ => ⟨rfl, e3, (by decide : 1 + 0 ≤ _), (by decide : 1 + 0 ≤ _)⟩)
      dsimp only [Pt.U, Pt.locs, Pt.cells, Pt.slots] at X4 l4 y4 z4 st4 hQ4
      subst l4 y4 z4
      obtain ⟨rfl, N4q, K4, E4a, F4a⟩ := hQ4
      have N4 := Fr.app N0 N4q
      refine Goes.via st4 ?_
      have Kz4 : Keep h0 T4.heap [] := Kz3.trans K4 (allS (Or.inr sz_bn) all0)
      show Goes p e below _ (T4.setTop (mkF m 39 #[.val (.long q0), .second, .val (.int (128 : Int32))] [(.ref bn)]))
      exact Goes.out X4 (fun h => by rw [Bd.returns] at h; cases h) Bd.notSynchronized (fun fs hr => retOut X4 hx Bd.returns rfl (Or.inr (Or.inr (Or.inr (Or.inr ⟨rfl, rfl, rfl⟩)))) (hb hby dVO_39) hr) ⟨bn, rfl, N4, Kz4, E4a⟩ (by decide) (by decide)
    · refine Goes.go (fun t => XS.ifNo X0.here hx rfl (hb hby dVO_17) rfl (Jvm.Free.XT.ll_gt_f hc17)) ?_
      show Goes p e below _ (s₁.setTop (mkF m 20 #[.val (.long q0), .second, .val (.int (128 : Int32))] []))
      obtain ⟨T5, X5, e5, st5⟩ := getS2 X0 hx hZ hown (host := "") (Or.inl (hw _ (List.mem_of_getElem? (i := 52) rfl))) Via.refl e0 (S_c.ext O0.2) (g := (mkF m 20 #[.val (.long q0), .second, .val (.int (128 : Int32))] [])) rfl (hb hby dVO_20)
      refine Goes.go st5 ?_
      show Goes p e below _ (T5.setTop (mkF m 23 #[.val (.long q0), .second, .val (.int (128 : Int32))] [(.ref w)]))
      refine Goes.go (fun t => XS.lloadN X5.here hx rfl (hb hby dVO_23) rfl ) ?_
      show Goes p e below _ (T5.setTop (mkF m 24 #[.val (.long q0), .second, .val (.int (128 : Int32))] [(.long q0), (.ref w)]))
      refine Goes.go (fun t => XS.l2i X5.here hx rfl (hb hby dVO_24) rfl) ?_
      show Goes p e below _ (T5.setTop (mkF m 25 #[.val (.long q0), .second, .val (.int (128 : Int32))] [(.int (q0.toInt32)), (.ref w)]))
      refine Goes.go (fun t => XS.sipush X5.here hx rfl (hb hby dVO_25)) ?_
      show Goes p e below _ (T5.setTop (mkF m 28 #[.val (.long q0), .second, .val (.int (128 : Int32))] [(.int (128 : Int32)), (.int (q0.toInt32)), (.ref w)]))
      refine Goes.go (fun t => XS.iadd X5.here hx rfl (hb hby dVO_28) rfl) ?_
      show Goes p e below _ (T5.setTop (mkF m 29 #[.val (.long q0), .second, .val (.int (128 : Int32))] [(.int ((q0.toInt32) + (128 : Int32))), (.ref w)]))
      obtain ⟨hin, hlt⟩ := Jvm.Free.LongBox.place_okL q0 hc9 hc17
      have Ar := A_c.ext O0.2
      obtain ⟨bc, hat, Ec⟩ := El_c ((q0.toInt32) + (128 : Int32)).toNatClampNeg hlt
      refine Goes.go (X5.aaload hx (j := ((q0.toInt32) + (128 : Int32))) (v := .ref bc) (by rw [e5]; exact Ar.1) (State.isArrayOf_alike hZ.alike Ar.2.1) rfl Ar.2.2 (by rw [Sz_c]; exact hin) hat (g := (mkF m 29 #[.val (.long q0), .second, .val (.int (128 : Int32))] [(.int ((q0.toInt32) + (128 : Int32))), (.ref w)])) rfl rfl (hb hby dVO_29)) ?_
      show Goes p e below _ (T5.setTop (mkF m 30 #[.val (.long q0), .second, .val (.int (128 : Int32))] [(.ref bc)]))
      exact Goes.out X5 (fun h => by rw [Bd.returns] at h; cases h) Bd.notSynchronized (fun fs hr => retOut X5 hx Bd.returns rfl (Or.inr (Or.inr (Or.inr (Or.inr ⟨rfl, rfl, rfl⟩)))) (hb hby dVO_30) hr) (by rw [e5]; exact ⟨bc, rfl, N0, Keep.refl _ _, (Ec.ext O0.2)⟩) (by decide) (by decide)
theorem dEF_0 : decode prog_224_method_11_code 0 = .ok (.aload_n 1, 1) := by decide +kernel
theorem dEF_1 : decode prog_224_method_11_code 1 = .ok (.instanceof 8, 3) := by decide +kernel
theorem dEF_4 : decode prog_224_method_11_code 4 = .ok (.ifCond .eq 22, 3) := by decide +kernel
theorem dEF_7 : decode prog_224_method_11_code 7 = .ok (.aload_n 0, 1) := by decide +kernel
theorem dEF_8 : decode prog_224_method_11_code 8 = .ok (.getfield 7, 3) := by decide +kernel
theorem dEF_11 : decode prog_224_method_11_code 11 = .ok (.aload_n 1, 1) := by decide +kernel
theorem dEF_12 : decode prog_224_method_11_code 12 = .ok (.checkcast 8, 3) := by decide +kernel
theorem dEF_15 : decode prog_224_method_11_code 15 = .ok (.getfield 7, 3) := by decide +kernel
theorem dEF_18 : decode prog_224_method_11_code 18 = .ok (.lcmp, 1) := by decide +kernel
theorem dEF_19 : decode prog_224_method_11_code 19 = .ok (.ifCond .ne 7, 3) := by decide +kernel
theorem dEF_22 : decode prog_224_method_11_code 22 = .ok (.iconst 1, 1) := by decide +kernel
theorem dEF_23 : decode prog_224_method_11_code 23 = .ok (.goto 4, 3) := by decide +kernel
theorem dEF_26 : decode prog_224_method_11_code 26 = .ok (.iconst 0, 1) := by decide +kernel
theorem dEF_27 : decode prog_224_method_11_code 27 = .ok (.ireturn, 1) := by decide +kernel
theorem pn_EF : plainName "org/ccsds/moims/mo/mal/structures/Time" = true := by first | (simp [plainName, overriddenIn]; done) | decide +kernel
theorem ef_EF (m : MethodId) (o0 : Addr) (o1 : Addr) : entryFrame m #[(.ref o0), (.ref o1)] 2 = mkF m 0 #[.val (.ref o0), .val (.ref o1)] [] := by first | (simp [entryFrame, mkF, argsToLocals, Value.category]; done) | rfl
def QEF (Z : State) (o0 : Addr) (o1 : Addr) (u : Int64) (u2 : Int64) (r : Int32) (h0 : Heap) (n0 : Nat) (v : Option Value) (h : Heap) (L : List Loc) : Prop := v = some (.int r) ∧ Fr n0 L ∧ h = h0
set_option maxRecDepth 65536 in
set_option maxHeartbeats 40000000 in
theorem rmEF (l : Launch) (Z : State) (a0 : Array Value) (hw : ∀ d ∈ tables_1, d.before a0 Z = true) (ws : List Jvm.Cond) (o0 : Addr) (o1 : Addr) (u : Int64) (u2 : Int64) (r : Int32) (h0 : Heap) (n0 : Nat) (Z0 : n0 ≤ h0.size) (E_o0 : Exa Z h0 o0 "org/ccsds/moims/mo/mal/structures/Time") (F_o0 : Fld Z h0 o0 "org/ccsds/moims/mo/mal/structures/Time" "value" "J" (.long u)) (E_o1 : Exa Z h0 o1 "org/ccsds/moims/mo/mal/structures/Time") (F_o1 : Fld Z h0 o1 "org/ccsds/moims/mo/mal/structures/Time" "value" "J" (.long u2)) (hr : (if u = u2 then (1 : Int32) else 0) = r) :
    MetFree l (⟨"org/ccsds/moims/mo/mal/structures/Time", "equals", "(Ljava/lang/Object;)Z"⟩ : MethodName) (head1 (Jvm.Cond.code (⟨"org/ccsds/moims/mo/mal/structures/Time", "equals", "(Ljava/lang/Object;)Z"⟩ : MethodName) prog_224_method_11_code 2 (some .boolean) :: ws) ({ frames := 0, cells := 0, slots := 0, locals := 0 } : Room)) (fun a U => a = #[(.ref o0), (.ref o1)] ∧ Z.Warmed39 U.vm ∧ U.heap = h0) (fun _ _ _ _ _ => True) (fun _ U o U' => ∃ v L, o = .returned v ∧ QEF Z o0 o1 u u2 r h0 n0 v U'.heap L ∧ FrameEnd U o U' L ({ frames := 0, cells := 0, slots := 0, locals := 0 } : Room).cells ({ frames := 0, cells := 0, slots := 0, locals := 0 } : Room).slots) := by
  refine MetFree.of_bodySF (plainFor_of_name pn_EF) hisR ?_
  intro p e s m args below meth c s₁ Bd hml0 hP hK
  obtain ⟨rfl, hZ, hh⟩ := hP
  have hx := Bd.exec
  have hby := Bd.bytes
  have hml : c.maxLocals = 2 := hml0
  have hown : s.vm.findClass "org/ccsds/moims/mo/mal/structures/Time" = some m.cls := findClass_of_methodNamed Bd.named
  have hnm := (name_of_methodNamed Bd.named Bd.method).1
  have X0 : Stand p l e ({ frames := 0, cells := 0, slots := 0, locals := 0 } : Room) s m #[(.ref o0), (.ref o1)] below meth c s₁ [] 0 0 := Stand.of_body Bd
  have e0 : s₁.heap = h0 := by rw [← hh, Bd.state]; rfl
  have N0 := Fr.nil n0
  show Goes p e below (fun o U' => ∃ v L, o = .returned v ∧ QEF Z o0 o1 u u2 r h0 n0 v U'.heap L ∧ FrameEnd s o U' L ({ frames := 0, cells := 0, slots := 0, locals := 0 } : Room).cells ({ frames := 0, cells := 0, slots := 0, locals := 0 } : Room).slots) _
  refine Goes.go (fun t k => castTop (ef_EF m o0 o1) k) ?_
  show Goes p e below _ (s₁.setTop (mkF m 0 #[.val (.ref o0), .val (.ref o1)] []))
  refine Goes.go (fun t => XS.aloadN X0.here hx rfl (hb hby dEF_0) rfl rfl ) ?_
  show Goes p e below _ (s₁.setTop (mkF m 1 #[.val (.ref o0), .val (.ref o1)] [(.ref o1)]))
  obtain ⟨T1, X1, e1, st1⟩ := instY X0 hx hZ hown (hw _ (List.mem_of_getElem? (i := 16) rfl)) e0 (Ins.self E_o1) (g := (mkF m 1 #[.val (.ref o0), .val (.ref o1)] [(.ref o1)])) rfl rfl (hb hby dEF_1)
  refine Goes.go st1 ?_
  show Goes p e below _ (T1.setTop (mkF m 4 #[.val (.ref o0), .val (.ref o1)] [(.int (1 : Int32))]))
  refine Goes.go (fun t => XS.ifNo X1.here hx rfl (hb hby dEF_4) rfl (Jvm.Free.XT.i0_eq_f (by decide))) ?_
  show Goes p e below _ (T1.setTop (mkF m 7 #[.val (.ref o0), .val (.ref o1)] []))
  refine Goes.go (fun t => XS.aloadN X1.here hx rfl (hb hby dEF_7) rfl rfl ) ?_
  show Goes p e below _ (T1.setTop (mkF m 8 #[.val (.ref o0), .val (.ref o1)] [(.ref o0)]))
  obtain ⟨T2, X2, e2, st2⟩ := getF X1 hx hZ hown (host := "") (Or.inl (hw _ (List.mem_of_getElem? (i := 9) rfl))) Via.refl e1 F_o0 (g := (mkF m 8 #[.val (.ref o0), .val (.ref o1)] [(.ref o0)])) rfl rfl (hb hby dEF_8)
  refine Goes.go st2 ?_
  show Goes p e below _ (T2.setTop (mkF m 11 #[.val (.ref o0), .val (.ref o1)] [(.long u)]))
  refine Goes.go (fun t => XS.aloadN X2.here hx rfl (hb hby dEF_11) rfl rfl ) ?_
  show Goes p e below _ (T2.setTop (mkF m 12 #[.val (.ref o0), .val (.ref o1)] [(.ref o1), (.long u)]))
  obtain ⟨T3, X3, e3, st3⟩ := castY X2 hx hZ hown (hw _ (List.mem_of_getElem? (i := 16) rfl)) e2 (Ins.self E_o1) (g := (mkF m 12 #[.val (.ref o0), .val (.ref o1)] [(.ref o1), (.long u)])) rfl rfl (hb hby dEF_12)
  refine Goes.go st3 ?_
  show Goes p e below _ (T3.setTop (mkF m 15 #[.val (.ref o0), .val (.ref o1)] [(.ref o1), (.long u)]))
  obtain ⟨T4, X4, e4, st4⟩ := getF X3 hx hZ hown (host := "") (Or.inl (hw _ (List.mem_of_getElem? (i := 9) rfl))) Via.refl e3 F_o1 (g := (mkF m 15 #[.val (.ref o0), .val (.ref o1)] [(.ref o1), (.long u)])) rfl rfl (hb hby dEF_15)
  refine Goes.go st4 ?_
  show Goes p e below _ (T4.setTop (mkF m 18 #[.val (.ref o0), .val (.ref o1)] [(.long u2), (.long u)]))
  refine Goes.go (fun t => XS.lcmp X4.here hx rfl (hb hby dEF_18) rfl) ?_
  show Goes p e below _ (T4.setTop (mkF m 19 #[.val (.ref o0), .val (.ref o1)] [(.int (lcmpW u u2))]))
  by_cases hc19 : u = u2
  · refine Goes.go (fun t => XS.ifNo X4.here hx rfl (hb hby dEF_19) rfl (Jvm.Free.XT.ll_ne_f hc19)) ?_
    show Goes p e below _ (T4.setTop (mkF m 22 #[.val (.ref o0), .val (.ref o1)] []))
    refine Goes.go (fun t => XS.iconst X4.here hx rfl (hb hby dEF_22)) ?_
    show Goes p e below _ (T4.setTop (mkF m 23 #[.val (.ref o0), .val (.ref o1)] [(.int (1 : Int32))]))
    refine Goes.go (fun t => XS.goto X4.here hx rfl (pc0 := 23) (pc' := 27) rfl (hb hby dEF_23) (by decide) (by decide)) ?_
    show Goes p e below _ (T4.setTop (mkF m 27 #[.val (.ref o0), .val (.ref o1)] [(.int (1 : Int32))]))
    exact Goes.out X4 (fun h => by rw [Bd.returns] at h; cases h) Bd.notSynchronized (fun fs hr => retN X4 hx (t := .boolean) Bd.returns (by simp) (hb hby dEF_27) hr) ⟨by rw [← hr, if_pos hc19]; rfl, N0, e4⟩ (by decide) (by decide)
  · refine Goes.go (fun t => XS.ifYes X4.here hx rfl (pc0 := 19) (pc' := 26) rfl (hb hby dEF_19) rfl (Jvm.Free.XT.ll_ne_t hc19) (by decide) (by decide)) ?_
    show Goes p e below _ (T4.setTop (mkF m 26 #[.val (.ref o0), .val (.ref o1)] []))
    refine Goes.go (fun t => XS.iconst X4.here hx rfl (hb hby dEF_26)) ?_
    show Goes p e below _ (T4.setTop (mkF m 27 #[.val (.ref o0), .val (.ref o1)] [(.int (0 : Int32))]))
    exact Goes.out X4 (fun h => by rw [Bd.returns] at h; cases h) Bd.notSynchronized (fun fs hr => retN X4 hx (t := .boolean) Bd.returns (by simp) (hb hby dEF_27) hr) ⟨by rw [← hr, if_neg hc19]; rfl, N0, e4⟩ (by decide) (by decide)
theorem dEO_0 : decode prog_224_method_11_code 0 = .ok (.aload_n 1, 1) := by decide +kernel
theorem dEO_1 : decode prog_224_method_11_code 1 = .ok (.instanceof 8, 3) := by decide +kernel
theorem dEO_4 : decode prog_224_method_11_code 4 = .ok (.ifCond .eq 22, 3) := by decide +kernel
theorem dEO_26 : decode prog_224_method_11_code 26 = .ok (.iconst 0, 1) := by decide +kernel
theorem dEO_27 : decode prog_224_method_11_code 27 = .ok (.ireturn, 1) := by decide +kernel
theorem pn_EO : plainName "org/ccsds/moims/mo/mal/structures/Time" = true := by first | (simp [plainName, overriddenIn]; done) | decide +kernel
theorem ef_EO (m : MethodId) (o0 : Addr) (o1 : Addr) : entryFrame m #[(.ref o0), (.ref o1)] 2 = mkF m 0 #[.val (.ref o0), .val (.ref o1)] [] := by first | (simp [entryFrame, mkF, argsToLocals, Value.category]; done) | rfl
def QEO (Z : State) (o0 : Addr) (o1 : Addr) (C : String) (h0 : Heap) (n0 : Nat) (v : Option Value) (h : Heap) (L : List Loc) : Prop := v = some (.int 0) ∧ Fr n0 L ∧ h = h0
set_option maxRecDepth 65536 in
set_option maxHeartbeats 40000000 in
theorem rmEO (l : Launch) (Z : State) (a0 : Array Value) (hw : ∀ d ∈ tables_1, d.before a0 Z = true) (ws : List Jvm.Cond) (o0 : Addr) (o1 : Addr) (C : String) (h0 : Heap) (n0 : Nat) (Z0 : n0 ≤ h0.size) (E_o1 : Exa Z h0 o1 C) (NI : Ins Z h0 o1 "org/ccsds/moims/mo/mal/structures/Time" false) :
    MetFree l (⟨"org/ccsds/moims/mo/mal/structures/Time", "equals", "(Ljava/lang/Object;)Z"⟩ : MethodName) (head1 (Jvm.Cond.code (⟨"org/ccsds/moims/mo/mal/structures/Time", "equals", "(Ljava/lang/Object;)Z"⟩ : MethodName) prog_224_method_11_code 2 (some .boolean) :: ws) ({ frames := 0, cells := 0, slots := 0, locals := 0 } : Room)) (fun a U => a = #[(.ref o0), (.ref o1)] ∧ Z.Warmed39 U.vm ∧ U.heap = h0) (fun _ _ _ _ _ => True) (fun _ U o U' => ∃ v L, o = .returned v ∧ QEO Z o0 o1 C h0 n0 v U'.heap L ∧ FrameEnd U o U' L ({ frames := 0, cells := 0, slots := 0, locals := 0 } : Room).cells ({ frames := 0, cells := 0, slots := 0, locals := 0 } : Room).slots) := by
  refine MetFree.of_bodySF (plainFor_of_name pn_EO) hisR ?_
  intro p e s m args below meth c s₁ Bd hml0 hP hK
  obtain ⟨rfl, hZ, hh⟩ := hP
  have hx := Bd.exec
  have hby := Bd.bytes
  have hml : c.maxLocals = 2 := hml0
  have hown : s.vm.findClass "org/ccsds/moims/mo/mal/structures/Time" = some m.cls := findClass_of_methodNamed Bd.named
  have hnm := (name_of_methodNamed Bd.named Bd.method).1
  have X0 : Stand p l e ({ frames := 0, cells := 0, slots := 0, locals := 0 } : Room) s m #[(.ref o0), (.ref o1)] below meth c s₁ [] 0 0 := Stand.of_body Bd
  have e0 : s₁.heap = h0 := by rw [← hh, Bd.state]; rfl
  have N0 := Fr.nil n0
  show Goes p e below (fun o U' => ∃ v L, o = .returned v ∧ QEO Z o0 o1 C h0 n0 v U'.heap L ∧ FrameEnd s o U' L ({ frames := 0, cells := 0, slots := 0, locals := 0 } : Room).cells ({ frames := 0, cells := 0, slots := 0, locals := 0 } : Room).slots) _
  refine Goes.go (fun t k => castTop (ef_EO m o0 o1) k) ?_
  show Goes p e below _ (s₁.setTop (mkF m 0 #[.val (.ref o0), .val (.ref o1)] []))
  refine Goes.go (fun t => XS.aloadN X0.here hx rfl (hb hby dEO_0) rfl rfl ) ?_
  show Goes p e below _ (s₁.setTop (mkF m 1 #[.val (.ref o0), .val (.ref o1)] [(.ref o1)]))
  obtain ⟨T1, X1, e1, st1⟩ := instN X0 hx hZ hown (hw _ (List.mem_of_getElem? (i := 16) rfl)) e0 (C := C) (by rw [hh]; exact NI) (by rw [hh]; exact E_o1) (g := (mkF m 1 #[.val (.ref o0), .val (.ref o1)] [(.ref o1)])) rfl rfl (hb hby dEO_1)
  refine Goes.go st1 ?_
  show Goes p e below _ (T1.setTop (mkF m 4 #[.val (.ref o0), .val (.ref o1)] [(.int (0 : Int32))]))
  refine Goes.go (fun t => XS.ifYes X1.here hx rfl (pc0 := 4) (pc' := 26) rfl (hb hby dEO_4) rfl (Jvm.Free.XT.i0_eq_t (by decide)) (by decide) (by decide)) ?_
  show Goes p e below _ (T1.setTop (mkF m 26 #[.val (.ref o0), .val (.ref o1)] []))
  refine Goes.go (fun t => XS.iconst X1.here hx rfl (hb hby dEO_26)) ?_
  show Goes p e below _ (T1.setTop (mkF m 27 #[.val (.ref o0), .val (.ref o1)] [(.int (0 : Int32))]))
  exact Goes.out X1 (fun h => by rw [Bd.returns] at h; cases h) Bd.notSynchronized (fun fs hr => retN X1 hx (t := .boolean) Bd.returns (by simp) (hb hby dEO_27) hr) ⟨rfl, N0, e1⟩ (by decide) (by decide)
theorem dEN_0 : decode prog_224_method_11_code 0 = .ok (.aload_n 1, 1) := by decide +kernel
theorem dEN_1 : decode prog_224_method_11_code 1 = .ok (.instanceof 8, 3) := by decide +kernel
theorem dEN_4 : decode prog_224_method_11_code 4 = .ok (.ifCond .eq 22, 3) := by decide +kernel
theorem dEN_26 : decode prog_224_method_11_code 26 = .ok (.iconst 0, 1) := by decide +kernel
theorem dEN_27 : decode prog_224_method_11_code 27 = .ok (.ireturn, 1) := by decide +kernel
theorem pn_EN : plainName "org/ccsds/moims/mo/mal/structures/Time" = true := by first | (simp [plainName, overriddenIn]; done) | decide +kernel
theorem ef_EN (m : MethodId) (o0 : Addr) : entryFrame m #[(.ref o0), .null] 2 = mkF m 0 #[.val (.ref o0), .val .null] [] := by first | (simp [entryFrame, mkF, argsToLocals, Value.category]; done) | rfl
def QEN (Z : State) (o0 : Addr) (h0 : Heap) (n0 : Nat) (v : Option Value) (h : Heap) (L : List Loc) : Prop := v = some (.int 0) ∧ Fr n0 L ∧ h = h0
set_option maxRecDepth 65536 in
set_option maxHeartbeats 40000000 in
theorem rmEN (l : Launch) (Z : State) (a0 : Array Value) (hw : ∀ d ∈ tables_1, d.before a0 Z = true) (ws : List Jvm.Cond) (o0 : Addr) (h0 : Heap) (n0 : Nat) (Z0 : n0 ≤ h0.size) :
    MetFree l (⟨"org/ccsds/moims/mo/mal/structures/Time", "equals", "(Ljava/lang/Object;)Z"⟩ : MethodName) (head1 (Jvm.Cond.code (⟨"org/ccsds/moims/mo/mal/structures/Time", "equals", "(Ljava/lang/Object;)Z"⟩ : MethodName) prog_224_method_11_code 2 (some .boolean) :: ws) ({ frames := 0, cells := 0, slots := 0, locals := 0 } : Room)) (fun a U => a = #[(.ref o0), .null] ∧ Z.Warmed39 U.vm ∧ U.heap = h0) (fun _ _ _ _ _ => True) (fun _ U o U' => ∃ v L, o = .returned v ∧ QEN Z o0 h0 n0 v U'.heap L ∧ FrameEnd U o U' L ({ frames := 0, cells := 0, slots := 0, locals := 0 } : Room).cells ({ frames := 0, cells := 0, slots := 0, locals := 0 } : Room).slots) := by
  refine MetFree.of_bodySF (plainFor_of_name pn_EN) hisR ?_
  intro p e s m args below meth c s₁ Bd hml0 hP hK
  obtain ⟨rfl, hZ, hh⟩ := hP
  have hx := Bd.exec
  have hby := Bd.bytes
  have hml : c.maxLocals = 2 := hml0
  have hown : s.vm.findClass "org/ccsds/moims/mo/mal/structures/Time" = some m.cls := findClass_of_methodNamed Bd.named
  have hnm := (name_of_methodNamed Bd.named Bd.method).1
  have X0 : Stand p l e ({ frames := 0, cells := 0, slots := 0, locals := 0 } : Room) s m #[(.ref o0), .null] below meth c s₁ [] 0 0 := Stand.of_body Bd
  have e0 : s₁.heap = h0 := by rw [← hh, Bd.state]; rfl
  have N0 := Fr.nil n0
  show Goes p e below (fun o U' => ∃ v L, o = .returned v ∧ QEN Z o0 h0 n0 v U'.heap L ∧ FrameEnd s o U' L ({ frames := 0, cells := 0, slots := 0, locals := 0 } : Room).cells ({ frames := 0, cells := 0, slots := 0, locals := 0 } : Room).slots) _
  refine Goes.go (fun t k => castTop (ef_EN m o0) k) ?_
  show Goes p e below _ (s₁.setTop (mkF m 0 #[.val (.ref o0), .val .null] []))
  refine Goes.go (fun t => XS.aloadN X0.here hx rfl (hb hby dEN_0) rfl rfl ) ?_
  show Goes p e below _ (s₁.setTop (mkF m 1 #[.val (.ref o0), .val .null] [.null]))
  refine Goes.go (X0.instanceofNull hx (g := (mkF m 1 #[.val (.ref o0), .val .null] [.null])) rfl rfl (hb hby dEN_1)) ?_
  show Goes p e below _ (s₁.setTop (mkF m 4 #[.val (.ref o0), .val .null] [(.int (0 : Int32))]))
  refine Goes.go (fun t => XS.ifYes X0.here hx rfl (pc0 := 4) (pc' := 26) rfl (hb hby dEN_4) rfl (Jvm.Free.XT.i0_eq_t (by decide)) (by decide) (by decide)) ?_
  show Goes p e below _ (s₁.setTop (mkF m 26 #[.val (.ref o0), .val .null] []))
  refine Goes.go (fun t => XS.iconst X0.here hx rfl (hb hby dEN_26)) ?_
  show Goes p e below _ (s₁.setTop (mkF m 27 #[.val (.ref o0), .val .null] [(.int (0 : Int32))]))
  exact Goes.out X0 (fun h => by rw [Bd.returns] at h; cases h) Bd.notSynchronized (fun fs hr => retN X0 hx (t := .boolean) Bd.returns (by simp) (hb hby dEN_27) hr) ⟨rfl, N0, e0⟩ (by decide) (by decide)
theorem pn_0 : plainName "org/ccsds/moims/mo/mal/structures/TimeEqualsPinLaw" = true := by first | (simp [plainName, overriddenIn]; done) | decide +kernel
theorem pd0_0 : parseMethodDescriptor "(J)V" = some ⟨[.long], none⟩ := by decide +kernel
theorem pd0_1 : parseMethodDescriptor "(Ljava/lang/Object;)Z" = some ⟨[(.object "java/lang/Object")], some .boolean⟩ := by decide +kernel
theorem pd0_2 : parseMethodDescriptor "(J)Ljava/lang/Long;" = some ⟨[.long], some (.object "java/lang/Long")⟩ := by decide +kernel
theorem ef_0 (m : MethodId) (q0 : Int64) (q1 : Int64) (p2 : Int32) : entryFrame m #[(.long q0), (.long q1), (.int p2)] maxLocals = mkF m 0 #[.val (.long q0), .second, .val (.long q1), .second, .val (.int p2), .unset, .unset, .unset, .unset] [] := by first | (simp [entryFrame, mkF, argsToLocals, Value.category, maxLocals]; done) | rfl
def Q0 (Z : State) (q0 : Int64) (q1 : Int64) (p2 : Int32) (w : Addr) (cl : Cell) (h0 : Heap) (n0 : Nat) (v : Option Value) (h : Heap) (L : List Loc) : Prop := v = some (.int 1) ∧ Fr n0 L
set_option maxRecDepth 65536 in
set_option maxHeartbeats 40000000 in
theorem rm0 (l : Launch) (Z : State) (a0 : Array Value) (hw : ∀ d ∈ tables_1, d.before a0 Z = true) (ws : List Jvm.Cond) (q0 : Int64) (q1 : Int64) (p2 : Int32) (w : Addr) (cl : Cell) (h0 : Heap) (n0 : Nat) (Z0 : n0 ≤ h0.size) (O0 : Old Z n0 h0) (S_c : Sta Z Z.heap "java/lang/Long$LongCache" "cache" "[Ljava/lang/Long;" (.ref w)) (A_c : Arr Z Z.heap w cl (.object "java/lang/Long")) (Sz_c : cl.slots.size = 256) (El_c : ∀ i, i < 256 → ∃ b : Addr, cl.slots[i]? = some (.ref b) ∧ Exa Z Z.heap b "java/lang/Long") :
    MetFree l x (head1 (Jvm.Cond.code x code maxLocals ret :: ws) room_1) (fun a U => a = #[(.long q0), (.long q1), (.int p2)] ∧ Z.Warmed39 U.vm ∧ U.heap = h0) (fun _ _ _ _ _ => True) (fun _ U o U' => ∃ v L, o = .returned v ∧ Q0 Z q0 q1 p2 w cl h0 n0 v U'.heap L ∧ FrameEnd U o U' L room_1.cells room_1.slots) := by
  refine MetFree.of_bodySF (plainFor_of_name pn_0) hisR ?_
  intro p e s m args below meth c s₁ Bd hml0 hP hK
  obtain ⟨rfl, hZ, hh⟩ := hP
  have hx := Bd.exec
  have hby := Bd.bytes
  have hml : c.maxLocals = 9 := hml0
  have hown : s.vm.findClass "org/ccsds/moims/mo/mal/structures/TimeEqualsPinLaw" = some m.cls := findClass_of_methodNamed Bd.named
  have hnm := (name_of_methodNamed Bd.named Bd.method).1
  have X0 : Stand p l e room_1 s m #[(.long q0), (.long q1), (.int p2)] below meth c s₁ [] 0 0 := Stand.of_body Bd
  have e0 : s₁.heap = h0 := by rw [← hh, Bd.state]; rfl
  have N0 := Fr.nil n0
  show Goes p e below (fun o U' => ∃ v L, o = .returned v ∧ Q0 Z q0 q1 p2 w cl h0 n0 v U'.heap L ∧ FrameEnd s o U' L room_1.cells room_1.slots) _
  refine Goes.go (fun t k => castTop (ef_0 m q0 q1 p2) k) ?_
  show Goes p e below _ (s₁.setTop (mkF m 0 #[.val (.long q0), .second, .val (.long q1), .second, .val (.int p2), .unset, .unset, .unset, .unset] []))
  refine Goes.go (fun t => XS.iload X0.here hx rfl (hb hby at_0) rfl ) ?_
  show Goes p e below _ (s₁.setTop (mkF m 2 #[.val (.long q0), .second, .val (.long q1), .second, .val (.int p2), .unset, .unset, .unset, .unset] [(.int p2)]))
  refine Goes.go (fun t => XS.bipush X0.here hx rfl (hb hby at_2)) ?_
  show Goes p e below _ (s₁.setTop (mkF m 4 #[.val (.long q0), .second, .val (.long q1), .second, .val (.int p2), .unset, .unset, .unset, .unset] [(.int (7 : Int32)), (.int p2)]))
  refine Goes.go (fun t => XS.iand X0.here hx rfl (hb hby at_4) rfl) ?_
  show Goes p e below _ (s₁.setTop (mkF m 5 #[.val (.long q0), .second, .val (.long q1), .second, .val (.int p2), .unset, .unset, .unset, .unset] [(.int (p2 &&& (7 : Int32)))]))
  refine Goes.go (fun t => XS.istore X0.here hx rfl (hb hby at_5) rfl (l' := #[.val (.long q0), .second, .val (.long q1), .second, .val (.int p2), .val (.int (p2 &&& (7 : Int32))), .unset, .unset, .unset]) rfl) ?_
  show Goes p e below _ (s₁.setTop (mkF m 7 #[.val (.long q0), .second, .val (.long q1), .second, .val (.int p2), .val (.int (p2 &&& (7 : Int32))), .unset, .unset, .unset] []))
  obtain ⟨T1, h1, X1, e1, E1, A1, D1, -, st1⟩ := newO X0 hx hZ hown (hw _ (List.mem_of_getElem? (i := 0) rfl)) (hw _ (List.mem_of_getElem? (i := 1) rfl)) (hw _ (List.mem_of_getElem? (i := 2) rfl)) e0 (g := (mkF m 7 #[.val (.long q0), .second, .val (.long q1), .second, .val (.int p2), .val (.int (p2 &&& (7 : Int32))), .unset, .unset, .unset] [])) rfl (hb hby at_7) (by decide) (by decide)
  obtain ⟨b1, gq_b1⟩ : ∃ z, z = h0.size := ⟨_, rfl⟩
  rw [← gq_b1] at A1 D1 st1
  have g_b1 : n0 ≤ b1 := Nat.le_trans Z0 (Nat.le_of_eq gq_b1.symm)
  have Z1 : n0 ≤ h1.size := Nat.le_trans Z0 E1.1
  have O1 : Old Z n0 h1 := O0.ext E1
  have F_value_b1_1 : Fld Z h1 b1 "org/ccsds/moims/mo/mal/structures/Time" "value" "J" (.long (0 : Int64)) := D1 (Or.inr (hw _ (List.mem_of_getElem? (i := 10) rfl))) (ty := .long) (by decide)
  refine Goes.go st1 ?_
  show Goes p e below _ (T1.setTop (mkF m 10 #[.val (.long q0), .second, .val (.long q1), .second, .val (.int p2), .val (.int (p2 &&& (7 : Int32))), .unset, .unset, .unset] [(.ref b1)]))
  refine Goes.go (fun t => XS.dup X1.here hx rfl (hb hby at_10) rfl rfl) ?_
  show Goes p e below _ (T1.setTop (mkF m 11 #[.val (.long q0), .second, .val (.long q1), .second, .val (.int p2), .val (.int (p2 &&& (7 : Int32))), .unset, .unset, .unset] [(.ref b1), (.ref b1)]))
  refine Goes.go (fun t => XS.lloadN X1.here hx rfl (hb hby at_11) rfl ) ?_
  show Goes p e below _ (T1.setTop (mkF m 12 #[.val (.long q0), .second, .val (.long q1), .second, .val (.int p2), .val (.int (p2 &&& (7 : Int32))), .unset, .unset, .unset] [(.long q0), (.ref b1), (.ref b1)]))
  obtain ⟨_, _, ⟨T2, L2, k2, n2⟩, -, X2, ⟨Lc2, hQ2, l2, y2, z2⟩, st2⟩ := X1.specialBack hx (y := (⟨"org/ccsds/moims/mo/mal/structures/Time", "<init>", "(J)V"⟩ : MethodName)) rfl hown (mvT hZ (hw _ (List.mem_of_getElem? (i := 3) rfl))) (mvT hZ (hw _ (List.mem_of_getElem? (i := 4) rfl))) (mvT hZ (hw _ (List.mem_of_getElem? (i := 5) rfl))) (by decide) (backOf (W := 1) (rmTI l Z a0 hw [] b1 q0 h1 n0 Z1 A1 F_value_b1_1 g_b1) hZ (hw _ (List.mem_of_getElem? (i := 5) rfl)) (hw _ (List.mem_of_getElem? (i := 2) rfl)) (by decide) (by decide)) (g := (mkF m 12 #[.val (.long q0), .second, .val (.long q1), .second, .val (.int p2), .val (.int (p2 &&& (7 : Int32))), .unset, .unset, .unset] [(.long q0), (.ref b1), (.ref b1)])) rfl (by rw [hml]; rfl) (Steps.refl _) (a := b1) (argsL := [(.long q0)]) (rest := [(.ref b1)]) (lenOf pd0_0 rfl) rfl (by show 2 * 0 + _ ≤ _; exact Nat.le_of_eq rfl) (hb hby at_12) (fun _ _ => ⟨rfl, e1, (by decide : 1 + 0 ≤ _), (by decide : 1 + 0 ≤ _)⟩)
  dsimp only [Pt.U, Pt.locs, Pt.cells, Pt.slots] at X2 l2 y2 z2 st2 hQ2
  subst l2 y2 z2
  obtain ⟨rfl, N2q, K2, E2a, F2a⟩ := hQ2
  have N2 := Fr.app N0 N2q
  refine Goes.via st2 ?_
  have Z2 : n0 ≤ T2.heap.size := Nat.le_trans Z1 K2.1
  have O2 : Old Z n0 T2.heap := O1.keep K2 (allS g_b1 all0)
  have E_b1_2 : Exa Z T2.heap b1 "org/ccsds/moims/mo/mal/structures/Time" := A1.keep K2
  show Goes p e below _ (T2.setTop (mkF m 15 #[.val (.long q0), .second, .val (.long q1), .second, .val (.int p2), .val (.int (p2 &&& (7 : Int32))), .unset, .unset, .unset] [(.ref b1)]))
  refine Goes.go (fun t => XS.astore X2.here hx rfl (hb hby at_15) rfl rfl (l' := #[.val (.long q0), .second, .val (.long q1), .second, .val (.int p2), .val (.int (p2 &&& (7 : Int32))), .val (.ref b1), .unset, .unset]) rfl) ?_
  show Goes p e below _ (T2.setTop (mkF m 17 #[.val (.long q0), .second, .val (.long q1), .second, .val (.int p2), .val (.int (p2 &&& (7 : Int32))), .val (.ref b1), .unset, .unset] []))
  refine Goes.go (fun t => XS.iload X2.here hx rfl (hb hby at_17) rfl ) ?_
  show Goes p e below _ (T2.setTop (mkF m 19 #[.val (.long q0), .second, .val (.long q1), .second, .val (.int p2), .val (.int (p2 &&& (7 : Int32))), .val (.ref b1), .unset, .unset] [(.int (p2 &&& (7 : Int32)))]))
  by_cases hc19 : (p2 &&& (7 : Int32)) = (0 : Int32)
  · refine Goes.go (fun t => XS.ifNo X2.here hx rfl (hb hby at_19) rfl (Jvm.Free.XT.i0_ne_f hc19)) ?_
    show Goes p e below _ (T2.setTop (mkF m 22 #[.val (.long q0), .second, .val (.long q1), .second, .val (.int p2), .val (.int (p2 &&& (7 : Int32))), .val (.ref b1), .unset, .unset] []))
    obtain ⟨T3, h3, X3, e3, E3, A3, D3, -, st3⟩ := newO X2 hx hZ hown (hw _ (List.mem_of_getElem? (i := 0) rfl)) (hw _ (List.mem_of_getElem? (i := 1) rfl)) (hw _ (List.mem_of_getElem? (i := 2) rfl)) rfl (g := (mkF m 22 #[.val (.long q0), .second, .val (.long q1), .second, .val (.int p2), .val (.int (p2 &&& (7 : Int32))), .val (.ref b1), .unset, .unset] [])) rfl (hb hby at_22) (by decide) (by decide)
    obtain ⟨b2, gq_b2⟩ : ∃ z, z = T2.heap.size := ⟨_, rfl⟩
    rw [← gq_b2] at A3 D3 st3
    have g_b2 : n0 ≤ b2 := Nat.le_trans Z2 (Nat.le_of_eq gq_b2.symm)
    have ne_b1_b2 : b1 ≠ b2 := Nat.ne_of_lt (Nat.lt_of_lt_of_le E2a.lt (Nat.le_of_eq gq_b2.symm))
    have Z3 : n0 ≤ h3.size := Nat.le_trans Z2 E3.1
    have O3 : Old Z n0 h3 := O2.ext E3
    have E_b1_3 : Exa Z h3 b1 "org/ccsds/moims/mo/mal/structures/Time" := E2a.ext E3
    have F_value_b1_3 : Fld Z h3 b1 "org/ccsds/moims/mo/mal/structures/Time" "value" "J" (.long q0) := F2a.ext E3
    have F_value_b2_3 : Fld Z h3 b2 "org/ccsds/moims/mo/mal/structures/Time" "value" "J" (.long (0 : Int64)) := D3 (Or.inr (hw _ (List.mem_of_getElem? (i := 10) rfl))) (ty := .long) (by decide)
    refine Goes.go st3 ?_
    show Goes p e below _ (T3.setTop (mkF m 25 #[.val (.long q0), .second, .val (.long q1), .second, .val (.int p2), .val (.int (p2 &&& (7 : Int32))), .val (.ref b1), .unset, .unset] [(.ref b2)]))
    refine Goes.go (fun t => XS.dup X3.here hx rfl (hb hby at_25) rfl rfl) ?_
    show Goes p e below _ (T3.setTop (mkF m 26 #[.val (.long q0), .second, .val (.long q1), .second, .val (.int p2), .val (.int (p2 &&& (7 : Int32))), .val (.ref b1), .unset, .unset] [(.ref b2), (.ref b2)]))
    refine Goes.go (fun t => XS.lloadN X3.here hx rfl (hb hby at_26) rfl ) ?_
    show Goes p e below _ (T3.setTop (mkF m 27 #[.val (.long q0), .second, .val (.long q1), .second, .val (.int p2), .val (.int (p2 &&& (7 : Int32))), .val (.ref b1), .unset, .unset] [(.long q1), (.ref b2), (.ref b2)]))
    obtain ⟨_, _, ⟨T4, L4, k4, n4⟩, -, X4, ⟨Lc4, hQ4, l4, y4, z4⟩, st4⟩ := X3.specialBack hx (y := (⟨"org/ccsds/moims/mo/mal/structures/Time", "<init>", "(J)V"⟩ : MethodName)) rfl hown (mvT hZ (hw _ (List.mem_of_getElem? (i := 3) rfl))) (mvT hZ (hw _ (List.mem_of_getElem? (i := 4) rfl))) (mvT hZ (hw _ (List.mem_of_getElem? (i := 5) rfl))) (by decide) (backOf (W := 1) (rmTI l Z a0 hw [] b2 q1 h3 n0 Z3 A3 F_value_b2_3 g_b2) hZ (hw _ (List.mem_of_getElem? (i := 5) rfl)) (hw _ (List.mem_of_getElem? (i := 2) rfl)) (by decide) (by decide)) (g := (mkF m 27 #[.val (.long q0), .second, .val (.long q1), .second, .val (.int p2), .val (.int (p2 &&& (7 : Int32))), .val (.ref b1), .unset, .unset] [(.long q1), (.ref b2), (.ref b2)])) rfl (by rw [hml]; rfl) (Steps.refl _) (a := b2) (argsL := [(.long q1)]) (rest := [(.ref b2)]) (lenOf pd0_0 rfl) rfl (by show 2 * 0 + _ ≤ _; exact Nat.le_of_eq rfl) (hb hby at_27) (fun _ _ => ⟨rfl, e3, (by decide : 2 + 0 ≤ _), (by decide : 2 + 0 ≤ _)⟩)
    dsimp only [Pt.U, Pt.locs, Pt.cells, Pt.slots] at X4 l4 y4 z4 st4 hQ4
    subst l4 y4 z4
    obtain ⟨rfl, N4q, K4, E4a, F4a⟩ := hQ4
    have N4 := Fr.app N2 N4q
    refine Goes.via st4 ?_
    have Z4 : n0 ≤ T4.heap.size := Nat.le_trans Z3 K4.1
    have O4 : Old Z n0 T4.heap := O3.keep K4 (allS g_b2 all0)
    have E_b1_4 : Exa Z T4.heap b1 "org/ccsds/moims/mo/mal/structures/Time" := E_b1_3.keep K4
    have F_value_b1_4 : Fld Z T4.heap b1 "org/ccsds/moims/mo/mal/structures/Time" "value" "J" (.long q0) := F_value_b1_3.keep K4 (ninS ne_b1_b2 nin0)
    have E_b2_4 : Exa Z T4.heap b2 "org/ccsds/moims/mo/mal/structures/Time" := A3.keep K4
    show Goes p e below _ (T4.setTop (mkF m 30 #[.val (.long q0), .second, .val (.long q1), .second, .val (.int p2), .val (.int (p2 &&& (7 : Int32))), .val (.ref b1), .unset, .unset] [(.ref b2)]))
    refine Goes.go (fun t => XS.astore X4.here hx rfl (hb hby at_30) rfl rfl (l' := #[.val (.long q0), .second, .val (.long q1), .second, .val (.int p2), .val (.int (p2 &&& (7 : Int32))), .val (.ref b1), .val (.ref b2), .unset]) rfl) ?_
    show Goes p e below _ (T4.setTop (mkF m 32 #[.val (.long q0), .second, .val (.long q1), .second, .val (.int p2), .val (.int (p2 &&& (7 : Int32))), .val (.ref b1), .val (.ref b2), .unset] []))
    refine Goes.go (fun t => XS.lloadN X4.here hx rfl (hb hby at_32) rfl ) ?_
    show Goes p e below _ (T4.setTop (mkF m 33 #[.val (.long q0), .second, .val (.long q1), .second, .val (.int p2), .val (.int (p2 &&& (7 : Int32))), .val (.ref b1), .val (.ref b2), .unset] [(.long q0)]))
    refine Goes.go (fun t => XS.lloadN X4.here hx rfl (hb hby at_33) rfl ) ?_
    show Goes p e below _ (T4.setTop (mkF m 34 #[.val (.long q0), .second, .val (.long q1), .second, .val (.int p2), .val (.int (p2 &&& (7 : Int32))), .val (.ref b1), .val (.ref b2), .unset] [(.long q1), (.long q0)]))
    refine Goes.go (fun t => XS.lcmp X4.here hx rfl (hb hby at_34) rfl) ?_
    show Goes p e below _ (T4.setTop (mkF m 35 #[.val (.long q0), .second, .val (.long q1), .second, .val (.int p2), .val (.int (p2 &&& (7 : Int32))), .val (.ref b1), .val (.ref b2), .unset] [(.int (lcmpW q0 q1))]))
    by_cases hc35 : q0 = q1
    · refine Goes.go (fun t => XS.ifNo X4.here hx rfl (hb hby at_35) rfl (Jvm.Free.XT.ll_ne_f hc35)) ?_
      show Goes p e below _ (T4.setTop (mkF m 38 #[.val (.long q0), .second, .val (.long q1), .second, .val (.int p2), .val (.int (p2 &&& (7 : Int32))), .val (.ref b1), .val (.ref b2), .unset] []))
      refine Goes.go (fun t => XS.iconst X4.here hx rfl (hb hby at_38)) ?_
      show Goes p e below _ (T4.setTop (mkF m 39 #[.val (.long q0), .second, .val (.long q1), .second, .val (.int p2), .val (.int (p2 &&& (7 : Int32))), .val (.ref b1), .val (.ref b2), .unset] [(.int (1 : Int32))]))
      refine Goes.go (fun t => XS.goto X4.here hx rfl (pc0 := 39) (pc' := 43) rfl (hb hby at_39) (by decide) (by decide)) ?_
      show Goes p e below _ (T4.setTop (mkF m 43 #[.val (.long q0), .second, .val (.long q1), .second, .val (.int p2), .val (.int (p2 &&& (7 : Int32))), .val (.ref b1), .val (.ref b2), .unset] [(.int (1 : Int32))]))
      refine Goes.go (fun t => XS.istore X4.here hx rfl (hb hby at_43) rfl (l' := #[.val (.long q0), .second, .val (.long q1), .second, .val (.int p2), .val (.int (p2 &&& (7 : Int32))), .val (.ref b1), .val (.ref b2), .val (.int (1 : Int32))]) rfl) ?_
      show Goes p e below _ (T4.setTop (mkF m 45 #[.val (.long q0), .second, .val (.long q1), .second, .val (.int p2), .val (.int (p2 &&& (7 : Int32))), .val (.ref b1), .val (.ref b2), .val (.int (1 : Int32))] []))
      refine Goes.go (fun t => XS.goto X4.here hx rfl (pc0 := 45) (pc' := 186) rfl (hb hby at_45) (by decide) (by decide)) ?_
      show Goes p e below _ (T4.setTop (mkF m 186 #[.val (.long q0), .second, .val (.long q1), .second, .val (.int p2), .val (.int (p2 &&& (7 : Int32))), .val (.ref b1), .val (.ref b2), .val (.int (1 : Int32))] []))
      refine Goes.go (fun t => XS.aload X4.here hx rfl (hb hby at_186) rfl rfl ) ?_
      show Goes p e below _ (T4.setTop (mkF m 188 #[.val (.long q0), .second, .val (.long q1), .second, .val (.int p2), .val (.int (p2 &&& (7 : Int32))), .val (.ref b1), .val (.ref b2), .val (.int (1 : Int32))] [(.ref b1)]))
      refine Goes.go (fun t => XS.aload X4.here hx rfl (hb hby at_188) rfl rfl ) ?_
      show Goes p e below _ (T4.setTop (mkF m 190 #[.val (.long q0), .second, .val (.long q1), .second, .val (.int p2), .val (.int (p2 &&& (7 : Int32))), .val (.ref b1), .val (.ref b2), .val (.int (1 : Int32))] [(.ref b2), (.ref b1)]))
      obtain ⟨cq5, kq5, q5a, q5b, q5c⟩ := isOf hZ rfl E_b1_4
      obtain ⟨_, _, ⟨T5, L5, k5, n5⟩, -, X5, ⟨Lc5, hQ5, l5, y5, z5⟩, st5⟩ := X4.virtualBack hx (y := (⟨"org/ccsds/moims/mo/mal/structures/Time", "equals", "(Ljava/lang/Object;)Z"⟩ : MethodName)) (z := (⟨"org/ccsds/moims/mo/mal/structures/Time", "equals", "(Ljava/lang/Object;)Z"⟩ : MethodName)) hown (mvT hZ (hw _ (List.mem_of_getElem? (i := 11) rfl))) (mvT hZ (hw _ (List.mem_of_getElem? (i := 12) rfl))) (notFace_of_selects (args := #[]) (mvT hZ (hw _ (List.mem_of_getElem? (i := 14) rfl)))) (mvT hZ (hw _ (List.mem_of_getElem? (i := 14) rfl))) (mvT hZ (hw _ (List.mem_of_getElem? (i := 13) rfl))) (by decide) (backOf (W := 0) (rmEF l Z a0 hw [] b1 b2 q0 q1 (1 : Int32) T4.heap n0 Z4 E_b1_4 F_value_b1_4 E4a F4a (if_pos hc35)) hZ (hw _ (List.mem_of_getElem? (i := 15) rfl)) (hw _ (List.mem_of_getElem? (i := 2) rfl)) (by decide) (by decide)) q5a q5c (g := (mkF m 190 #[.val (.long q0), .second, .val (.long q1), .second, .val (.int p2), .val (.int (p2 &&& (7 : Int32))), .val (.ref b1), .val (.ref b2), .val (.int (1 : Int32))] [(.ref b2), (.ref b1)])) rfl (by rw [hml]; rfl) (Steps.refl _) (argsL := [(.ref b2)]) (rest := []) (lenOf pd0_1 rfl) rfl (by show 2 * 0 + _ ≤ _; exact Nat.le_of_eq rfl) (hb hby at_190) (fun _ _ => ⟨rfl, rfl, (by decide : 2 + 0 ≤ _), (by decide : 2 + 0 ≤ _)⟩)
      dsimp only [Pt.U, Pt.locs, Pt.cells, Pt.slots] at X5 l5 y5 z5 st5 hQ5
      subst l5 y5 z5
      obtain ⟨rfl, N5q, e5q⟩ := hQ5
      have N5 := Fr.app N4 N5q
      refine Goes.via st5 ?_
      have Z5 : n0 ≤ T5.heap.size := by rw [e5q]; exact Z4
      have O5 : Old Z n0 T5.heap := by rw [e5q]; exact O4
      have E_b1_5 : Exa Z T5.heap b1 "org/ccsds/moims/mo/mal/structures/Time" := by rw [e5q]; exact E_b1_4
      have F_value_b1_5 : Fld Z T5.heap b1 "org/ccsds/moims/mo/mal/structures/Time" "value" "J" (.long q0) := by rw [e5q]; exact F_value_b1_4
      have E_b2_5 : Exa Z T5.heap b2 "org/ccsds/moims/mo/mal/structures/Time" := by rw [e5q]; exact E4a
      have F_value_b2_5 : Fld Z T5.heap b2 "org/ccsds/moims/mo/mal/structures/Time" "value" "J" (.long q1) := by rw [e5q]; exact F4a
      show Goes p e below _ (T5.setTop (mkF m 193 #[.val (.long q0), .second, .val (.long q1), .second, .val (.int p2), .val (.int (p2 &&& (7 : Int32))), .val (.ref b1), .val (.ref b2), .val (.int (1 : Int32))] [(.int (1 : Int32))]))
      refine Goes.go (fun t => XS.iload X5.here hx rfl (hb hby at_193) rfl ) ?_
      show Goes p e below _ (T5.setTop (mkF m 195 #[.val (.long q0), .second, .val (.long q1), .second, .val (.int p2), .val (.int (p2 &&& (7 : Int32))), .val (.ref b1), .val (.ref b2), .val (.int (1 : Int32))] [(.int (1 : Int32)), (.int (1 : Int32))]))
      refine Goes.go (fun t => XS.icmpNo X5.here hx rfl (hb hby at_195) rfl (Jvm.Free.XT.ii_ne_f (by decide))) ?_
      show Goes p e below _ (T5.setTop (mkF m 198 #[.val (.long q0), .second, .val (.long q1), .second, .val (.int p2), .val (.int (p2 &&& (7 : Int32))), .val (.ref b1), .val (.ref b2), .val (.int (1 : Int32))] []))
      refine Goes.go (fun t => XS.iconst X5.here hx rfl (hb hby at_198)) ?_
      show Goes p e below _ (T5.setTop (mkF m 199 #[.val (.long q0), .second, .val (.long q1), .second, .val (.int p2), .val (.int (p2 &&& (7 : Int32))), .val (.ref b1), .val (.ref b2), .val (.int (1 : Int32))] [(.int (1 : Int32))]))
      refine Goes.go (fun t => XS.goto X5.here hx rfl (pc0 := 199) (pc' := 203) rfl (hb hby at_199) (by decide) (by decide)) ?_
      show Goes p e below _ (T5.setTop (mkF m 203 #[.val (.long q0), .second, .val (.long q1), .second, .val (.int p2), .val (.int (p2 &&& (7 : Int32))), .val (.ref b1), .val (.ref b2), .val (.int (1 : Int32))] [(.int (1 : Int32))]))
      exact Goes.out X5 (fun h => by rw [Bd.returns] at h; cases h) Bd.notSynchronized (fun fs hr => retN X5 hx (t := .boolean) Bd.returns (by simp) (hb hby at_203) hr) ⟨rfl, N5⟩ (by decide) (by decide)
    · refine Goes.go (fun t => XS.ifYes X4.here hx rfl (pc0 := 35) (pc' := 42) rfl (hb hby at_35) rfl (Jvm.Free.XT.ll_ne_t hc35) (by decide) (by decide)) ?_
      show Goes p e below _ (T4.setTop (mkF m 42 #[.val (.long q0), .second, .val (.long q1), .second, .val (.int p2), .val (.int (p2 &&& (7 : Int32))), .val (.ref b1), .val (.ref b2), .unset] []))
      refine Goes.go (fun t => XS.iconst X4.here hx rfl (hb hby at_42)) ?_
      show Goes p e below _ (T4.setTop (mkF m 43 #[.val (.long q0), .second, .val (.long q1), .second, .val (.int p2), .val (.int (p2 &&& (7 : Int32))), .val (.ref b1), .val (.ref b2), .unset] [(.int (0 : Int32))]))
      refine Goes.go (fun t => XS.istore X4.here hx rfl (hb hby at_43) rfl (l' := #[.val (.long q0), .second, .val (.long q1), .second, .val (.int p2), .val (.int (p2 &&& (7 : Int32))), .val (.ref b1), .val (.ref b2), .val (.int (0 : Int32))]) rfl) ?_
      show Goes p e below _ (T4.setTop (mkF m 45 #[.val (.long q0), .second, .val (.long q1), .second, .val (.int p2), .val (.int (p2 &&& (7 : Int32))), .val (.ref b1), .val (.ref b2), .val (.int (0 : Int32))] []))
      refine Goes.go (fun t => XS.goto X4.here hx rfl (pc0 := 45) (pc' := 186) rfl (hb hby at_45) (by decide) (by decide)) ?_
      show Goes p e below _ (T4.setTop (mkF m 186 #[.val (.long q0), .second, .val (.long q1), .second, .val (.int p2), .val (.int (p2 &&& (7 : Int32))), .val (.ref b1), .val (.ref b2), .val (.int (0 : Int32))] []))
      refine Goes.go (fun t => XS.aload X4.here hx rfl (hb hby at_186) rfl rfl ) ?_
      show Goes p e below _ (T4.setTop (mkF m 188 #[.val (.long q0), .second, .val (.long q1), .second, .val (.int p2), .val (.int (p2 &&& (7 : Int32))), .val (.ref b1), .val (.ref b2), .val (.int (0 : Int32))] [(.ref b1)]))
      refine Goes.go (fun t => XS.aload X4.here hx rfl (hb hby at_188) rfl rfl ) ?_
      show Goes p e below _ (T4.setTop (mkF m 190 #[.val (.long q0), .second, .val (.long q1), .second, .val (.int p2), .val (.int (p2 &&& (7 : Int32))), .val (.ref b1), .val (.ref b2), .val (.int (0 : Int32))] [(.ref b2), (.ref b1)]))
      obtain ⟨cq6, kq6, q6a, q6b, q6c⟩ := isOf hZ rfl E_b1_4
      obtain ⟨_, _, ⟨T6, L6, k6, n6⟩, -, X6, ⟨Lc6, hQ6, l6, y6, z6⟩, st6⟩ := X4.virtualBack hx (y := (⟨"org/ccsds/moims/mo/mal/structures/Time", "equals", "(Ljava/lang/Object;)Z"⟩ : MethodName)) (z := (⟨"org/ccsds/moims/mo/mal/structures/Time", "equals", "(Ljava/lang/Object;)Z"⟩ : MethodName)) hown (mvT hZ (hw _ (List.mem_of_getElem? (i := 11) rfl))) (mvT hZ (hw _ (List.mem_of_getElem? (i := 12) rfl))) (notFace_of_selects (args := #[]) (mvT hZ (hw _ (List.mem_of_getElem? (i := 14) rfl)))) (mvT hZ (hw _ (List.mem_of_getElem? (i := 14) rfl))) (mvT hZ (hw _ (List.mem_of_getElem? (i := 13) rfl))) (by decide) (backOf (W := 0) (rmEF l Z a0 hw [] b1 b2 q0 q1 (0 : Int32) T4.heap n0 Z4 E_b1_4 F_value_b1_4 E4a F4a (if_neg hc35)) hZ (hw _ (List.mem_of_getElem? (i := 15) rfl)) (hw _ (List.mem_of_getElem? (i := 2) rfl)) (by decide) (by decide)) q6a q6c (g := (mkF m 190 #[.val (.long q0), .second, .val (.long q1), .second, .val (.int p2), .val (.int (p2 &&& (7 : Int32))), .val (.ref b1), .val (.ref b2), .val (.int (0 : Int32))] [(.ref b2), (.ref b1)])) rfl (by rw [hml]; rfl) (Steps.refl _) (argsL := [(.ref b2)]) (rest := []) (lenOf pd0_1 rfl) rfl (by show 2 * 0 + _ ≤ _; exact Nat.le_of_eq rfl) (hb hby at_190) (fun _ _ => ⟨rfl, rfl, (by decide : 2 + 0 ≤ _), (by decide : 2 + 0 ≤ _)⟩)
      dsimp only [Pt.U, Pt.locs, Pt.cells, Pt.slots] at X6 l6 y6 z6 st6 hQ6
      subst l6 y6 z6
      obtain ⟨rfl, N6q, e6q⟩ := hQ6
      have N6 := Fr.app N4 N6q
      refine Goes.via st6 ?_
      have Z6 : n0 ≤ T6.heap.size := by rw [e6q]; exact Z4
      have O6 : Old Z n0 T6.heap := by rw [e6q]; exact O4
      have E_b1_6 : Exa Z T6.heap b1 "org/ccsds/moims/mo/mal/structures/Time" := by rw [e6q]; exact E_b1_4
      have F_value_b1_6 : Fld Z T6.heap b1 "org/ccsds/moims/mo/mal/structures/Time" "value" "J" (.long q0) := by rw [e6q]; exact F_value_b1_4
      have E_b2_6 : Exa Z T6.heap b2 "org/ccsds/moims/mo/mal/structures/Time" := by rw [e6q]; exact E4a
      have F_value_b2_6 : Fld Z T6.heap b2 "org/ccsds/moims/mo/mal/structures/Time" "value" "J" (.long q1) := by rw [e6q]; exact F4a
      show Goes p e below _ (T6.setTop (mkF m 193 #[.val (.long q0), .second, .val (.long q1), .second, .val (.int p2), .val (.int (p2 &&& (7 : Int32))), .val (.ref b1), .val (.ref b2), .val (.int (0 : Int32))] [(.int (0 : Int32))]))
      refine Goes.go (fun t => XS.iload X6.here hx rfl (hb hby at_193) rfl ) ?_
      show Goes p e below _ (T6.setTop (mkF m 195 #[.val (.long q0), .second, .val (.long q1), .second, .val (.int p2), .val (.int (p2 &&& (7 : Int32))), .val (.ref b1), .val (.ref b2), .val (.int (0 : Int32))] [(.int (0 : Int32)), (.int (0 : Int32))]))
      refine Goes.go (fun t => XS.icmpNo X6.here hx rfl (hb hby at_195) rfl (Jvm.Free.XT.ii_ne_f (by decide))) ?_
      show Goes p e below _ (T6.setTop (mkF m 198 #[.val (.long q0), .second, .val (.long q1), .second, .val (.int p2), .val (.int (p2 &&& (7 : Int32))), .val (.ref b1), .val (.ref b2), .val (.int (0 : Int32))] []))
      refine Goes.go (fun t => XS.iconst X6.here hx rfl (hb hby at_198)) ?_
      show Goes p e below _ (T6.setTop (mkF m 199 #[.val (.long q0), .second, .val (.long q1), .second, .val (.int p2), .val (.int (p2 &&& (7 : Int32))), .val (.ref b1), .val (.ref b2), .val (.int (0 : Int32))] [(.int (1 : Int32))]))
      refine Goes.go (fun t => XS.goto X6.here hx rfl (pc0 := 199) (pc' := 203) rfl (hb hby at_199) (by decide) (by decide)) ?_
      show Goes p e below _ (T6.setTop (mkF m 203 #[.val (.long q0), .second, .val (.long q1), .second, .val (.int p2), .val (.int (p2 &&& (7 : Int32))), .val (.ref b1), .val (.ref b2), .val (.int (0 : Int32))] [(.int (1 : Int32))]))
      exact Goes.out X6 (fun h => by rw [Bd.returns] at h; cases h) Bd.notSynchronized (fun fs hr => retN X6 hx (t := .boolean) Bd.returns (by simp) (hb hby at_203) hr) ⟨rfl, N6⟩ (by decide) (by decide)
  · refine Goes.go (fun t => XS.ifYes X2.here hx rfl (pc0 := 19) (pc' := 48) rfl (hb hby at_19) rfl (Jvm.Free.XT.i0_ne_t hc19) (by decide) (by decide)) ?_
    show Goes p e below _ (T2.setTop (mkF m 48 #[.val (.long q0), .second, .val (.long q1), .second, .val (.int p2), .val (.int (p2 &&& (7 : Int32))), .val (.ref b1), .unset, .unset] []))
    refine Goes.go (fun t => XS.iload X2.here hx rfl (hb hby at_48) rfl ) ?_
    show Goes p e below _ (T2.setTop (mkF m 50 #[.val (.long q0), .second, .val (.long q1), .second, .val (.int p2), .val (.int (p2 &&& (7 : Int32))), .val (.ref b1), .unset, .unset] [(.int (p2 &&& (7 : Int32)))]))
    refine Goes.go (fun t => XS.iconst X2.here hx rfl (hb hby at_50)) ?_
    show Goes p e below _ (T2.setTop (mkF m 51 #[.val (.long q0), .second, .val (.long q1), .second, .val (.int p2), .val (.int (p2 &&& (7 : Int32))), .val (.ref b1), .unset, .unset] [(.int (1 : Int32)), (.int (p2 &&& (7 : Int32)))]))
    by_cases hc51 : (p2 &&& (7 : Int32)) = (1 : Int32)
    · refine Goes.go (fun t => XS.icmpNo X2.here hx rfl (hb hby at_51) rfl (Jvm.Free.XT.ii_ne_f hc51)) ?_
      show Goes p e below _ (T2.setTop (mkF m 54 #[.val (.long q0), .second, .val (.long q1), .second, .val (.int p2), .val (.int (p2 &&& (7 : Int32))), .val (.ref b1), .unset, .unset] []))
      obtain ⟨T7, h7, X7, e7, E7, A7, D7, -, st7⟩ := newO X2 hx hZ hown (hw _ (List.mem_of_getElem? (i := 0) rfl)) (hw _ (List.mem_of_getElem? (i := 1) rfl)) (hw _ (List.mem_of_getElem? (i := 2) rfl)) rfl (g := (mkF m 54 #[.val (.long q0), .second, .val (.long q1), .second, .val (.int p2), .val (.int (p2 &&& (7 : Int32))), .val (.ref b1), .unset, .unset] [])) rfl (hb hby at_54) (by decide) (by decide)
      obtain ⟨b3, gq_b3⟩ : ∃ z, z = T2.heap.size := ⟨_, rfl⟩
      rw [← gq_b3] at A7 D7 st7
      have g_b3 : n0 ≤ b3 := Nat.le_trans Z2 (Nat.le_of_eq gq_b3.symm)
      have ne_b1_b3 : b1 ≠ b3 := Nat.ne_of_lt (Nat.lt_of_lt_of_le E2a.lt (Nat.le_of_eq gq_b3.symm))
      have Z7 : n0 ≤ h7.size := Nat.le_trans Z2 E7.1
      have O7 : Old Z n0 h7 := O2.ext E7
      have E_b1_7 : Exa Z h7 b1 "org/ccsds/moims/mo/mal/structures/Time" := E2a.ext E7
      have F_value_b1_7 : Fld Z h7 b1 "org/ccsds/moims/mo/mal/structures/Time" "value" "J" (.long q0) := F2a.ext E7
      have F_value_b3_7 : Fld Z h7 b3 "org/ccsds/moims/mo/mal/structures/Time" "value" "J" (.long (0 : Int64)) := D7 (Or.inr (hw _ (List.mem_of_getElem? (i := 10) rfl))) (ty := .long) (by decide)
      refine Goes.go st7 ?_
      show Goes p e below _ (T7.setTop (mkF m 57 #[.val (.long q0), .second, .val (.long q1), .second, .val (.int p2), .val (.int (p2 &&& (7 : Int32))), .val (.ref b1), .unset, .unset] [(.ref b3)]))
      refine Goes.go (fun t => XS.dup X7.here hx rfl (hb hby at_57) rfl rfl) ?_
      show Goes p e below _ (T7.setTop (mkF m 58 #[.val (.long q0), .second, .val (.long q1), .second, .val (.int p2), .val (.int (p2 &&& (7 : Int32))), .val (.ref b1), .unset, .unset] [(.ref b3), (.ref b3)]))
      refine Goes.go (fun t => XS.lloadN X7.here hx rfl (hb hby at_58) rfl ) ?_
      show Goes p e below _ (T7.setTop (mkF m 59 #[.val (.long q0), .second, .val (.long q1), .second, .val (.int p2), .val (.int (p2 &&& (7 : Int32))), .val (.ref b1), .unset, .unset] [(.long q0), (.ref b3), (.ref b3)]))
      obtain ⟨_, _, ⟨T8, L8, k8, n8⟩, -, X8, ⟨Lc8, hQ8, l8, y8, z8⟩, st8⟩ := X7.specialBack hx (y := (⟨"org/ccsds/moims/mo/mal/structures/Time", "<init>", "(J)V"⟩ : MethodName)) rfl hown (mvT hZ (hw _ (List.mem_of_getElem? (i := 3) rfl))) (mvT hZ (hw _ (List.mem_of_getElem? (i := 4) rfl))) (mvT hZ (hw _ (List.mem_of_getElem? (i := 5) rfl))) (by decide) (backOf (W := 1) (rmTI l Z a0 hw [] b3 q0 h7 n0 Z7 A7 F_value_b3_7 g_b3) hZ (hw _ (List.mem_of_getElem? (i := 5) rfl)) (hw _ (List.mem_of_getElem? (i := 2) rfl)) (by decide) (by decide)) (g := (mkF m 59 #[.val (.long q0), .second, .val (.long q1), .second, .val (.int p2), .val (.int (p2 &&& (7 : Int32))), .val (.ref b1), .unset, .unset] [(.long q0), (.ref b3), (.ref b3)])) rfl (by rw [hml]; rfl) (Steps.refl _) (a := b3) (argsL := [(.long q0)]) (rest := [(.ref b3)]) (lenOf pd0_0 rfl) rfl (by show 2 * 0 + _ ≤ _; exact Nat.le_of_eq rfl) (hb hby at_59) (fun _ _ => ⟨rfl, e7, (by decide : 2 + 0 ≤ _), (by decide : 2 + 0 ≤ _)⟩)
      dsimp only [Pt.U, Pt.locs, Pt.cells, Pt.slots] at X8 l8 y8 z8 st8 hQ8
      subst l8 y8 z8
      obtain ⟨rfl, N8q, K8, E8a, F8a⟩ := hQ8
      have N8 := Fr.app N2 N8q
      refine Goes.via st8 ?_
      have Z8 : n0 ≤ T8.heap.size := Nat.le_trans Z7 K8.1
      have O8 : Old Z n0 T8.heap := O7.keep K8 (allS g_b3 all0)
      have E_b1_8 : Exa Z T8.heap b1 "org/ccsds/moims/mo/mal/structures/Time" := E_b1_7.keep K8
      have F_value_b1_8 : Fld Z T8.heap b1 "org/ccsds/moims/mo/mal/structures/Time" "value" "J" (.long q0) := F_value_b1_7.keep K8 (ninS ne_b1_b3 nin0)
      have E_b3_8 : Exa Z T8.heap b3 "org/ccsds/moims/mo/mal/structures/Time" := A7.keep K8
      show Goes p e below _ (T8.setTop (mkF m 62 #[.val (.long q0), .second, .val (.long q1), .second, .val (.int p2), .val (.int (p2 &&& (7 : Int32))), .val (.ref b1), .unset, .unset] [(.ref b3)]))
      refine Goes.go (fun t => XS.astore X8.here hx rfl (hb hby at_62) rfl rfl (l' := #[.val (.long q0), .second, .val (.long q1), .second, .val (.int p2), .val (.int (p2 &&& (7 : Int32))), .val (.ref b1), .val (.ref b3), .unset]) rfl) ?_
      show Goes p e below _ (T8.setTop (mkF m 64 #[.val (.long q0), .second, .val (.long q1), .second, .val (.int p2), .val (.int (p2 &&& (7 : Int32))), .val (.ref b1), .val (.ref b3), .unset] []))
      refine Goes.go (fun t => XS.iconst X8.here hx rfl (hb hby at_64)) ?_
      show Goes p e below _ (T8.setTop (mkF m 65 #[.val (.long q0), .second, .val (.long q1), .second, .val (.int p2), .val (.int (p2 &&& (7 : Int32))), .val (.ref b1), .val (.ref b3), .unset] [(.int (1 : Int32))]))
      refine Goes.go (fun t => XS.istore X8.here hx rfl (hb hby at_65) rfl (l' := #[.val (.long q0), .second, .val (.long q1), .second, .val (.int p2), .val (.int (p2 &&& (7 : Int32))), .val (.ref b1), .val (.ref b3), .val (.int (1 : Int32))]) rfl) ?_
      show Goes p e below _ (T8.setTop (mkF m 67 #[.val (.long q0), .second, .val (.long q1), .second, .val (.int p2), .val (.int (p2 &&& (7 : Int32))), .val (.ref b1), .val (.ref b3), .val (.int (1 : Int32))] []))
      refine Goes.go (fun t => XS.goto X8.here hx rfl (pc0 := 67) (pc' := 186) rfl (hb hby at_67) (by decide) (by decide)) ?_
      show Goes p e below _ (T8.setTop (mkF m 186 #[.val (.long q0), .second, .val (.long q1), .second, .val (.int p2), .val (.int (p2 &&& (7 : Int32))), .val (.ref b1), .val (.ref b3), .val (.int (1 : Int32))] []))
      refine Goes.go (fun t => XS.aload X8.here hx rfl (hb hby at_186) rfl rfl ) ?_
      show Goes p e below _ (T8.setTop (mkF m 188 #[.val (.long q0), .second, .val (.long q1), .second, .val (.int p2), .val (.int (p2 &&& (7 : Int32))), .val (.ref b1), .val (.ref b3), .val (.int (1 : Int32))] [(.ref b1)]))
      refine Goes.go (fun t => XS.aload X8.here hx rfl (hb hby at_188) rfl rfl ) ?_
      show Goes p e below _ (T8.setTop (mkF m 190 #[.val (.long q0), .second, .val (.long q1), .second, .val (.int p2), .val (.int (p2 &&& (7 : Int32))), .val (.ref b1), .val (.ref b3), .val (.int (1 : Int32))] [(.ref b3), (.ref b1)]))
      obtain ⟨cq9, kq9, q9a, q9b, q9c⟩ := isOf hZ rfl E_b1_8
      obtain ⟨_, _, ⟨T9, L9, k9, n9⟩, -, X9, ⟨Lc9, hQ9, l9, y9, z9⟩, st9⟩ := X8.virtualBack hx (y := (⟨"org/ccsds/moims/mo/mal/structures/Time", "equals", "(Ljava/lang/Object;)Z"⟩ : MethodName)) (z := (⟨"org/ccsds/moims/mo/mal/structures/Time", "equals", "(Ljava/lang/Object;)Z"⟩ : MethodName)) hown (mvT hZ (hw _ (List.mem_of_getElem? (i := 11) rfl))) (mvT hZ (hw _ (List.mem_of_getElem? (i := 12) rfl))) (notFace_of_selects (args := #[]) (mvT hZ (hw _ (List.mem_of_getElem? (i := 14) rfl)))) (mvT hZ (hw _ (List.mem_of_getElem? (i := 14) rfl))) (mvT hZ (hw _ (List.mem_of_getElem? (i := 13) rfl))) (by decide) (backOf (W := 0) (rmEF l Z a0 hw [] b1 b3 q0 q0 (1 : Int32) T8.heap n0 Z8 E_b1_8 F_value_b1_8 E8a F8a (if_pos rfl)) hZ (hw _ (List.mem_of_getElem? (i := 15) rfl)) (hw _ (List.mem_of_getElem? (i := 2) rfl)) (by decide) (by decide)) q9a q9c (g := (mkF m 190 #[.val (.long q0), .second, .val (.long q1), .second, .val (.int p2), .val (.int (p2 &&& (7 : Int32))), .val (.ref b1), .val (.ref b3), .val (.int (1 : Int32))] [(.ref b3), (.ref b1)])) rfl (by rw [hml]; rfl) (Steps.refl _) (argsL := [(.ref b3)]) (rest := []) (lenOf pd0_1 rfl) rfl (by show 2 * 0 + _ ≤ _; exact Nat.le_of_eq rfl) (hb hby at_190) (fun _ _ => ⟨rfl, rfl, (by decide : 2 + 0 ≤ _), (by decide : 2 + 0 ≤ _)⟩)
      dsimp only [Pt.U, Pt.locs, Pt.cells, Pt.slots] at X9 l9 y9 z9 st9 hQ9
      subst l9 y9 z9
      obtain ⟨rfl, N9q, e9q⟩ := hQ9
      have N9 := Fr.app N8 N9q
      refine Goes.via st9 ?_
      have Z9 : n0 ≤ T9.heap.size := by rw [e9q]; exact Z8
      have O9 : Old Z n0 T9.heap := by rw [e9q]; exact O8
      have E_b1_9 : Exa Z T9.heap b1 "org/ccsds/moims/mo/mal/structures/Time" := by rw [e9q]; exact E_b1_8
      have F_value_b1_9 : Fld Z T9.heap b1 "org/ccsds/moims/mo/mal/structures/Time" "value" "J" (.long q0) := by rw [e9q]; exact F_value_b1_8
      have E_b3_9 : Exa Z T9.heap b3 "org/ccsds/moims/mo/mal/structures/Time" := by rw [e9q]; exact E8a
      have F_value_b3_9 : Fld Z T9.heap b3 "org/ccsds/moims/mo/mal/structures/Time" "value" "J" (.long q0) := by rw [e9q]; exact F8a
      show Goes p e below _ (T9.setTop (mkF m 193 #[.val (.long q0), .second, .val (.long q1), .second, .val (.int p2), .val (.int (p2 &&& (7 : Int32))), .val (.ref b1), .val (.ref b3), .val (.int (1 : Int32))] [(.int (1 : Int32))]))
      refine Goes.go (fun t => XS.iload X9.here hx rfl (hb hby at_193) rfl ) ?_
      show Goes p e below _ (T9.setTop (mkF m 195 #[.val (.long q0), .second, .val (.long q1), .second, .val (.int p2), .val (.int (p2 &&& (7 : Int32))), .val (.ref b1), .val (.ref b3), .val (.int (1 : Int32))] [(.int (1 : Int32)), (.int (1 : Int32))]))
      refine Goes.go (fun t => XS.icmpNo X9.here hx rfl (hb hby at_195) rfl (Jvm.Free.XT.ii_ne_f (by decide))) ?_
      show Goes p e below _ (T9.setTop (mkF m 198 #[.val (.long q0), .second, .val (.long q1), .second, .val (.int p2), .val (.int (p2 &&& (7 : Int32))), .val (.ref b1), .val (.ref b3), .val (.int (1 : Int32))] []))
      refine Goes.go (fun t => XS.iconst X9.here hx rfl (hb hby at_198)) ?_
      show Goes p e below _ (T9.setTop (mkF m 199 #[.val (.long q0), .second, .val (.long q1), .second, .val (.int p2), .val (.int (p2 &&& (7 : Int32))), .val (.ref b1), .val (.ref b3), .val (.int (1 : Int32))] [(.int (1 : Int32))]))
      refine Goes.go (fun t => XS.goto X9.here hx rfl (pc0 := 199) (pc' := 203) rfl (hb hby at_199) (by decide) (by decide)) ?_
      show Goes p e below _ (T9.setTop (mkF m 203 #[.val (.long q0), .second, .val (.long q1), .second, .val (.int p2), .val (.int (p2 &&& (7 : Int32))), .val (.ref b1), .val (.ref b3), .val (.int (1 : Int32))] [(.int (1 : Int32))]))
      exact Goes.out X9 (fun h => by rw [Bd.returns] at h; cases h) Bd.notSynchronized (fun fs hr => retN X9 hx (t := .boolean) Bd.returns (by simp) (hb hby at_203) hr) ⟨rfl, N9⟩ (by decide) (by decide)
    · refine Goes.go (fun t => XS.icmpYes X2.here hx rfl (pc0 := 51) (pc' := 70) rfl (hb hby at_51) rfl (Jvm.Free.XT.ii_ne_t hc51) (by decide) (by decide)) ?_
      show Goes p e below _ (T2.setTop (mkF m 70 #[.val (.long q0), .second, .val (.long q1), .second, .val (.int p2), .val (.int (p2 &&& (7 : Int32))), .val (.ref b1), .unset, .unset] []))
      refine Goes.go (fun t => XS.iload X2.here hx rfl (hb hby at_70) rfl ) ?_
      show Goes p e below _ (T2.setTop (mkF m 72 #[.val (.long q0), .second, .val (.long q1), .second, .val (.int p2), .val (.int (p2 &&& (7 : Int32))), .val (.ref b1), .unset, .unset] [(.int (p2 &&& (7 : Int32)))]))
      refine Goes.go (fun t => XS.iconst X2.here hx rfl (hb hby at_72)) ?_
      show Goes p e below _ (T2.setTop (mkF m 73 #[.val (.long q0), .second, .val (.long q1), .second, .val (.int p2), .val (.int (p2 &&& (7 : Int32))), .val (.ref b1), .unset, .unset] [(.int (2 : Int32)), (.int (p2 &&& (7 : Int32)))]))
      by_cases hc73 : (p2 &&& (7 : Int32)) = (2 : Int32)
      · refine Goes.go (fun t => XS.icmpNo X2.here hx rfl (hb hby at_73) rfl (Jvm.Free.XT.ii_ne_f hc73)) ?_
        show Goes p e below _ (T2.setTop (mkF m 76 #[.val (.long q0), .second, .val (.long q1), .second, .val (.int p2), .val (.int (p2 &&& (7 : Int32))), .val (.ref b1), .unset, .unset] []))
        refine Goes.go (fun t => XS.aconstNull X2.here hx rfl (hb hby at_76)) ?_
        show Goes p e below _ (T2.setTop (mkF m 77 #[.val (.long q0), .second, .val (.long q1), .second, .val (.int p2), .val (.int (p2 &&& (7 : Int32))), .val (.ref b1), .unset, .unset] [.null]))
        refine Goes.go (fun t => XS.astore X2.here hx rfl (hb hby at_77) rfl rfl (l' := #[.val (.long q0), .second, .val (.long q1), .second, .val (.int p2), .val (.int (p2 &&& (7 : Int32))), .val (.ref b1), .val .null, .unset]) rfl) ?_
        show Goes p e below _ (T2.setTop (mkF m 79 #[.val (.long q0), .second, .val (.long q1), .second, .val (.int p2), .val (.int (p2 &&& (7 : Int32))), .val (.ref b1), .val .null, .unset] []))
        refine Goes.go (fun t => XS.iconst X2.here hx rfl (hb hby at_79)) ?_
        show Goes p e below _ (T2.setTop (mkF m 80 #[.val (.long q0), .second, .val (.long q1), .second, .val (.int p2), .val (.int (p2 &&& (7 : Int32))), .val (.ref b1), .val .null, .unset] [(.int (0 : Int32))]))
        refine Goes.go (fun t => XS.istore X2.here hx rfl (hb hby at_80) rfl (l' := #[.val (.long q0), .second, .val (.long q1), .second, .val (.int p2), .val (.int (p2 &&& (7 : Int32))), .val (.ref b1), .val .null, .val (.int (0 : Int32))]) rfl) ?_
        show Goes p e below _ (T2.setTop (mkF m 82 #[.val (.long q0), .second, .val (.long q1), .second, .val (.int p2), .val (.int (p2 &&& (7 : Int32))), .val (.ref b1), .val .null, .val (.int (0 : Int32))] []))
        refine Goes.go (fun t => XS.goto X2.here hx rfl (pc0 := 82) (pc' := 186) rfl (hb hby at_82) (by decide) (by decide)) ?_
        show Goes p e below _ (T2.setTop (mkF m 186 #[.val (.long q0), .second, .val (.long q1), .second, .val (.int p2), .val (.int (p2 &&& (7 : Int32))), .val (.ref b1), .val .null, .val (.int (0 : Int32))] []))
        refine Goes.go (fun t => XS.aload X2.here hx rfl (hb hby at_186) rfl rfl ) ?_
        show Goes p e below _ (T2.setTop (mkF m 188 #[.val (.long q0), .second, .val (.long q1), .second, .val (.int p2), .val (.int (p2 &&& (7 : Int32))), .val (.ref b1), .val .null, .val (.int (0 : Int32))] [(.ref b1)]))
        refine Goes.go (fun t => XS.aload X2.here hx rfl (hb hby at_188) rfl rfl ) ?_
        show Goes p e below _ (T2.setTop (mkF m 190 #[.val (.long q0), .second, .val (.long q1), .second, .val (.int p2), .val (.int (p2 &&& (7 : Int32))), .val (.ref b1), .val .null, .val (.int (0 : Int32))] [.null, (.ref b1)]))
        obtain ⟨cq10, kq10, q10a, q10b, q10c⟩ := isOf hZ rfl E2a
        obtain ⟨_, _, ⟨T10, L10, k10, n10⟩, -, X10, ⟨Lc10, hQ10, l10, y10, z10⟩, st10⟩ := X2.virtualBack hx (y := (⟨"org/ccsds/moims/mo/mal/structures/Time", "equals", "(Ljava/lang/Object;)Z"⟩ : MethodName)) (z := (⟨"org/ccsds/moims/mo/mal/structures/Time", "equals", "(Ljava/lang/Object;)Z"⟩ : MethodName)) hown (mvT hZ (hw _ (List.mem_of_getElem? (i := 11) rfl))) (mvT hZ (hw _ (List.mem_of_getElem? (i := 12) rfl))) (notFace_of_selects (args := #[]) (mvT hZ (hw _ (List.mem_of_getElem? (i := 14) rfl)))) (mvT hZ (hw _ (List.mem_of_getElem? (i := 14) rfl))) (mvT hZ (hw _ (List.mem_of_getElem? (i := 13) rfl))) (by decide) (backOf (W := 0) (rmEN l Z a0 hw [] b1 T2.heap n0 Z2) hZ (hw _ (List.mem_of_getElem? (i := 15) rfl)) (hw _ (List.mem_of_getElem? (i := 2) rfl)) (by decide) (by decide)) q10a q10c (g := (mkF m 190 #[.val (.long q0), .second, .val (.long q1), .second, .val (.int p2), .val (.int (p2 &&& (7 : Int32))), .val (.ref b1), .val .null, .val (.int (0 : Int32))] [.null, (.ref b1)])) rfl (by rw [hml]; rfl) (Steps.refl _) (argsL := [.null]) (rest := []) (lenOf pd0_1 rfl) rfl (by show 2 * 0 + _ ≤ _; exact Nat.le_of_eq rfl) (hb hby at_190) (fun _ _ => ⟨rfl, rfl, (by decide : 1 + 0 ≤ _), (by decide : 1 + 0 ≤ _)⟩)
        dsimp only [Pt.U, Pt.locs, Pt.cells, Pt.slots] at X10 l10 y10 z10 st10 hQ10
        subst l10 y10 z10
        obtain ⟨rfl, N10q, e10q⟩ := hQ10
        have N10 := Fr.app N2 N10q
        refine Goes.via st10 ?_
        have Z10 : n0 ≤ T10.heap.size := by rw [e10q]; exact Z2
        have O10 : Old Z n0 T10.heap := by rw [e10q]; exact O2
        have E_b1_10 : Exa Z T10.heap b1 "org/ccsds/moims/mo/mal/structures/Time" := by rw [e10q]; exact E2a
        have F_value_b1_10 : Fld Z T10.heap b1 "org/ccsds/moims/mo/mal/structures/Time" "value" "J" (.long q0) := by rw [e10q]; exact F2a
        show Goes p e below _ (T10.setTop (mkF m 193 #[.val (.long q0), .second, .val (.long q1), .second, .val (.int p2), .val (.int (p2 &&& (7 : Int32))), .val (.ref b1), .val .null, .val (.int (0 : Int32))] [(.int (0 : Int32))]))
        refine Goes.go (fun t => XS.iload X10.here hx rfl (hb hby at_193) rfl ) ?_
        show Goes p e below _ (T10.setTop (mkF m 195 #[.val (.long q0), .second, .val (.long q1), .second, .val (.int p2), .val (.int (p2 &&& (7 : Int32))), .val (.ref b1), .val .null, .val (.int (0 : Int32))] [(.int (0 : Int32)), (.int (0 : Int32))]))
        refine Goes.go (fun t => XS.icmpNo X10.here hx rfl (hb hby at_195) rfl (Jvm.Free.XT.ii_ne_f (by decide))) ?_
        show Goes p e below _ (T10.setTop (mkF m 198 #[.val (.long q0), .second, .val (.long q1), .second, .val (.int p2), .val (.int (p2 &&& (7 : Int32))), .val (.ref b1), .val .null, .val (.int (0 : Int32))] []))
        refine Goes.go (fun t => XS.iconst X10.here hx rfl (hb hby at_198)) ?_
        show Goes p e below _ (T10.setTop (mkF m 199 #[.val (.long q0), .second, .val (.long q1), .second, .val (.int p2), .val (.int (p2 &&& (7 : Int32))), .val (.ref b1), .val .null, .val (.int (0 : Int32))] [(.int (1 : Int32))]))
        refine Goes.go (fun t => XS.goto X10.here hx rfl (pc0 := 199) (pc' := 203) rfl (hb hby at_199) (by decide) (by decide)) ?_
        show Goes p e below _ (T10.setTop (mkF m 203 #[.val (.long q0), .second, .val (.long q1), .second, .val (.int p2), .val (.int (p2 &&& (7 : Int32))), .val (.ref b1), .val .null, .val (.int (0 : Int32))] [(.int (1 : Int32))]))
        exact Goes.out X10 (fun h => by rw [Bd.returns] at h; cases h) Bd.notSynchronized (fun fs hr => retN X10 hx (t := .boolean) Bd.returns (by simp) (hb hby at_203) hr) ⟨rfl, N10⟩ (by decide) (by decide)
      · refine Goes.go (fun t => XS.icmpYes X2.here hx rfl (pc0 := 73) (pc' := 85) rfl (hb hby at_73) rfl (Jvm.Free.XT.ii_ne_t hc73) (by decide) (by decide)) ?_
        show Goes p e below _ (T2.setTop (mkF m 85 #[.val (.long q0), .second, .val (.long q1), .second, .val (.int p2), .val (.int (p2 &&& (7 : Int32))), .val (.ref b1), .unset, .unset] []))
        refine Goes.go (fun t => XS.iload X2.here hx rfl (hb hby at_85) rfl ) ?_
        show Goes p e below _ (T2.setTop (mkF m 87 #[.val (.long q0), .second, .val (.long q1), .second, .val (.int p2), .val (.int (p2 &&& (7 : Int32))), .val (.ref b1), .unset, .unset] [(.int (p2 &&& (7 : Int32)))]))
        refine Goes.go (fun t => XS.iconst X2.here hx rfl (hb hby at_87)) ?_
        show Goes p e below _ (T2.setTop (mkF m 88 #[.val (.long q0), .second, .val (.long q1), .second, .val (.int p2), .val (.int (p2 &&& (7 : Int32))), .val (.ref b1), .unset, .unset] [(.int (3 : Int32)), (.int (p2 &&& (7 : Int32)))]))
        by_cases hc88 : (p2 &&& (7 : Int32)) = (3 : Int32)
        · refine Goes.go (fun t => XS.icmpNo X2.here hx rfl (hb hby at_88) rfl (Jvm.Free.XT.ii_ne_f hc88)) ?_
          show Goes p e below _ (T2.setTop (mkF m 91 #[.val (.long q0), .second, .val (.long q1), .second, .val (.int p2), .val (.int (p2 &&& (7 : Int32))), .val (.ref b1), .unset, .unset] []))
          obtain ⟨T11, h11, X11, e11, E11, A11, D11, -, st11⟩ := newO X2 hx hZ hown (hw _ (List.mem_of_getElem? (i := 18) rfl)) (hw _ (List.mem_of_getElem? (i := 19) rfl)) (hw _ (List.mem_of_getElem? (i := 20) rfl)) rfl (g := (mkF m 91 #[.val (.long q0), .second, .val (.long q1), .second, .val (.int p2), .val (.int (p2 &&& (7 : Int32))), .val (.ref b1), .unset, .unset] [])) rfl (hb hby at_91) (by decide) (by decide)
          obtain ⟨b4, gq_b4⟩ : ∃ z, z = T2.heap.size := ⟨_, rfl⟩
          rw [← gq_b4] at A11 D11 st11
          have g_b4 : n0 ≤ b4 := Nat.le_trans Z2 (Nat.le_of_eq gq_b4.symm)
          have ne_b1_b4 : b1 ≠ b4 := Nat.ne_of_lt (Nat.lt_of_lt_of_le E2a.lt (Nat.le_of_eq gq_b4.symm))
          have Z11 : n0 ≤ h11.size := Nat.le_trans Z2 E11.1
          have O11 : Old Z n0 h11 := O2.ext E11
          have E_b1_11 : Exa Z h11 b1 "org/ccsds/moims/mo/mal/structures/Time" := E2a.ext E11
          have F_value_b1_11 : Fld Z h11 b1 "org/ccsds/moims/mo/mal/structures/Time" "value" "J" (.long q0) := F2a.ext E11
          have F_value_b4_11 : Fld Z h11 b4 "org/ccsds/moims/mo/mal/structures/FineTime" "value" "J" (.long (0 : Int64)) := D11 (Or.inr (hw _ (List.mem_of_getElem? (i := 26) rfl))) (ty := .long) (by decide)
          refine Goes.go st11 ?_
          show Goes p e below _ (T11.setTop (mkF m 94 #[.val (.long q0), .second, .val (.long q1), .second, .val (.int p2), .val (.int (p2 &&& (7 : Int32))), .val (.ref b1), .unset, .unset] [(.ref b4)]))
          refine Goes.go (fun t => XS.dup X11.here hx rfl (hb hby at_94) rfl rfl) ?_
          show Goes p e below _ (T11.setTop (mkF m 95 #[.val (.long q0), .second, .val (.long q1), .second, .val (.int p2), .val (.int (p2 &&& (7 : Int32))), .val (.ref b1), .unset, .unset] [(.ref b4), (.ref b4)]))
          refine Goes.go (fun t => XS.lloadN X11.here hx rfl (hb hby at_95) rfl ) ?_
          show Goes p e below _ (T11.setTop (mkF m 96 #[.val (.long q0), .second, .val (.long q1), .second, .val (.int p2), .val (.int (p2 &&& (7 : Int32))), .val (.ref b1), .unset, .unset] [(.long q0), (.ref b4), (.ref b4)]))
          obtain ⟨_, _, ⟨T12, L12, k12, n12⟩, -, X12, ⟨Lc12, hQ12, l12, y12, z12⟩, st12⟩ := X11.specialBack hx (y := (⟨"org/ccsds/moims/mo/mal/structures/FineTime", "<init>", "(J)V"⟩ : MethodName)) rfl hown (mvT hZ (hw _ (List.mem_of_getElem? (i := 21) rfl))) (mvT hZ (hw _ (List.mem_of_getElem? (i := 22) rfl))) (mvT hZ (hw _ (List.mem_of_getElem? (i := 23) rfl))) (by decide) (backOf (W := 1) (rmFI l Z a0 hw [] b4 q0 h11 n0 Z11 A11 F_value_b4_11 g_b4) hZ (hw _ (List.mem_of_getElem? (i := 23) rfl)) (hw _ (List.mem_of_getElem? (i := 20) rfl)) (by decide) (by decide)) (g := (mkF m 96 #[.val (.long q0), .second, .val (.long q1), .second, .val (.int p2), .val (.int (p2 &&& (7 : Int32))), .val (.ref b1), .unset, .unset] [(.long q0), (.ref b4), (.ref b4)])) rfl (by rw [hml]; rfl) (Steps.refl _) (a := b4) (argsL := [(.long q0)]) (rest := [(.ref b4)]) (lenOf pd0_0 rfl) rfl (by show 2 * 0 + _ ≤ _; exact Nat.le_of_eq rfl) (hb hby at_96) (fun _ _ => ⟨rfl, e11, (by decide : 2 + 0 ≤ _), (by decide : 2 + 0 ≤ _)⟩)
          dsimp only [Pt.U, Pt.locs, Pt.cells, Pt.slots] at X12 l12 y12 z12 st12 hQ12
          subst l12 y12 z12
          obtain ⟨rfl, N12q, K12, E12a, F12a⟩ := hQ12
          have N12 := Fr.app N2 N12q
          refine Goes.via st12 ?_
          have Z12 : n0 ≤ T12.heap.size := Nat.le_trans Z11 K12.1
          have O12 : Old Z n0 T12.heap := O11.keep K12 (allS g_b4 all0)
          have E_b1_12 : Exa Z T12.heap b1 "org/ccsds/moims/mo/mal/structures/Time" := E_b1_11.keep K12
          have F_value_b1_12 : Fld Z T12.heap b1 "org/ccsds/moims/mo/mal/structures/Time" "value" "J" (.long q0) := F_value_b1_11.keep K12 (ninS ne_b1_b4 nin0)
          have E_b4_12 : Exa Z T12.heap b4 "org/ccsds/moims/mo/mal/structures/FineTime" := A11.keep K12
          show Goes p e below _ (T12.setTop (mkF m 99 #[.val (.long q0), .second, .val (.long q1), .second, .val (.int p2), .val (.int (p2 &&& (7 : Int32))), .val (.ref b1), .unset, .unset] [(.ref b4)]))
          refine Goes.go (fun t => XS.astore X12.here hx rfl (hb hby at_99) rfl rfl (l' := #[.val (.long q0), .second, .val (.long q1), .second, .val (.int p2), .val (.int (p2 &&& (7 : Int32))), .val (.ref b1), .val (.ref b4), .unset]) rfl) ?_
          show Goes p e below _ (T12.setTop (mkF m 101 #[.val (.long q0), .second, .val (.long q1), .second, .val (.int p2), .val (.int (p2 &&& (7 : Int32))), .val (.ref b1), .val (.ref b4), .unset] []))
          refine Goes.go (fun t => XS.iconst X12.here hx rfl (hb hby at_101)) ?_
          show Goes p e below _ (T12.setTop (mkF m 102 #[.val (.long q0), .second, .val (.long q1), .second, .val (.int p2), .val (.int (p2 &&& (7 : Int32))), .val (.ref b1), .val (.ref b4), .unset] [(.int (0 : Int32))]))
          refine Goes.go (fun t => XS.istore X12.here hx rfl (hb hby at_102) rfl (l' := #[.val (.long q0), .second, .val (.long q1), .second, .val (.int p2), .val (.int (p2 &&& (7 : Int32))), .val (.ref b1), .val (.ref b4), .val (.int (0 : Int32))]) rfl) ?_
          show Goes p e below _ (T12.setTop (mkF m 104 #[.val (.long q0), .second, .val (.long q1), .second, .val (.int p2), .val (.int (p2 &&& (7 : Int32))), .val (.ref b1), .val (.ref b4), .val (.int (0 : Int32))] []))
          refine Goes.go (fun t => XS.goto X12.here hx rfl (pc0 := 104) (pc' := 186) rfl (hb hby at_104) (by decide) (by decide)) ?_
          show Goes p e below _ (T12.setTop (mkF m 186 #[.val (.long q0), .second, .val (.long q1), .second, .val (.int p2), .val (.int (p2 &&& (7 : Int32))), .val (.ref b1), .val (.ref b4), .val (.int (0 : Int32))] []))
          refine Goes.go (fun t => XS.aload X12.here hx rfl (hb hby at_186) rfl rfl ) ?_
          show Goes p e below _ (T12.setTop (mkF m 188 #[.val (.long q0), .second, .val (.long q1), .second, .val (.int p2), .val (.int (p2 &&& (7 : Int32))), .val (.ref b1), .val (.ref b4), .val (.int (0 : Int32))] [(.ref b1)]))
          refine Goes.go (fun t => XS.aload X12.here hx rfl (hb hby at_188) rfl rfl ) ?_
          show Goes p e below _ (T12.setTop (mkF m 190 #[.val (.long q0), .second, .val (.long q1), .second, .val (.int p2), .val (.int (p2 &&& (7 : Int32))), .val (.ref b1), .val (.ref b4), .val (.int (0 : Int32))] [(.ref b4), (.ref b1)]))
          obtain ⟨cq13, kq13, q13a, q13b, q13c⟩ := isOf hZ rfl E_b1_12
          obtain ⟨_, _, ⟨T13, L13, k13, n13⟩, -, X13, ⟨Lc13, hQ13, l13, y13, z13⟩, st13⟩ := X12.virtualBack hx (y := (⟨"org/ccsds/moims/mo/mal/structures/Time", "equals", "(Ljava/lang/Object;)Z"⟩ : MethodName)) (z := (⟨"org/ccsds/moims/mo/mal/structures/Time", "equals", "(Ljava/lang/Object;)Z"⟩ : MethodName)) hown (mvT hZ (hw _ (List.mem_of_getElem? (i := 11) rfl))) (mvT hZ (hw _ (List.mem_of_getElem? (i := 12) rfl))) (notFace_of_selects (args := #[]) (mvT hZ (hw _ (List.mem_of_getElem? (i := 14) rfl)))) (mvT hZ (hw _ (List.mem_of_getElem? (i := 14) rfl))) (mvT hZ (hw _ (List.mem_of_getElem? (i := 13) rfl))) (by decide) (backOf (W := 0) (rmEO l Z a0 hw [] b1 b4 "org/ccsds/moims/mo/mal/structures/FineTime" T12.heap n0 Z12 E12a (own_noins E12a (hw _ (List.mem_of_getElem? (i := 1) rfl)) (hw _ (List.mem_of_getElem? (i := 27) rfl)) (by decide) (own_nosub.up (hw _ (List.mem_of_getElem? (i := 27) rfl)) (by decide) (own_nosub.top (hw _ (List.mem_of_getElem? (i := 28) rfl)) (by decide))))) hZ (hw _ (List.mem_of_getElem? (i := 15) rfl)) (hw _ (List.mem_of_getElem? (i := 2) rfl)) (by decide) (by decide)) q13a q13c (g := (mkF m 190 #[.val (.long q0), .second, .val (.long q1), .second, .val (.int p2), .val (.int (p2 &&& (7 : Int32))), .val (.ref b1), .val (.ref b4), .val (.int (0 : Int32))] [(.ref b4), (.ref b1)])) rfl (by rw [hml]; rfl) (Steps.refl _) (argsL := [(.ref b4)]) (rest := []) (lenOf pd0_1 rfl) rfl (by show 2 * 0 + _ ≤ _; exact Nat.le_of_eq rfl) (hb hby at_190) (fun _ _ => ⟨rfl, rfl, (by decide : 2 + 0 ≤ _), (by decide : 2 + 0 ≤ _)⟩)
          dsimp only [Pt.U, Pt.locs, Pt.cells, Pt.slots] at X13 l13 y13 z13 st13 hQ13
          subst l13 y13 z13
          obtain ⟨rfl, N13q, e13q⟩ := hQ13
          have N13 := Fr.app N12 N13q
          refine Goes.via st13 ?_
          have Z13 : n0 ≤ T13.heap.size := by rw [e13q]; exact Z12
          have O13 : Old Z n0 T13.heap := by rw [e13q]; exact O12
          have E_b1_13 : Exa Z T13.heap b1 "org/ccsds/moims/mo/mal/structures/Time" := by rw [e13q]; exact E_b1_12
          have F_value_b1_13 : Fld Z T13.heap b1 "org/ccsds/moims/mo/mal/structures/Time" "value" "J" (.long q0) := by rw [e13q]; exact F_value_b1_12
          have E_b4_13 : Exa Z T13.heap b4 "org/ccsds/moims/mo/mal/structures/FineTime" := by rw [e13q]; exact E12a
          have F_value_b4_13 : Fld Z T13.heap b4 "org/ccsds/moims/mo/mal/structures/FineTime" "value" "J" (.long q0) := by rw [e13q]; exact F12a
          show Goes p e below _ (T13.setTop (mkF m 193 #[.val (.long q0), .second, .val (.long q1), .second, .val (.int p2), .val (.int (p2 &&& (7 : Int32))), .val (.ref b1), .val (.ref b4), .val (.int (0 : Int32))] [(.int (0 : Int32))]))
          refine Goes.go (fun t => XS.iload X13.here hx rfl (hb hby at_193) rfl ) ?_
          show Goes p e below _ (T13.setTop (mkF m 195 #[.val (.long q0), .second, .val (.long q1), .second, .val (.int p2), .val (.int (p2 &&& (7 : Int32))), .val (.ref b1), .val (.ref b4), .val (.int (0 : Int32))] [(.int (0 : Int32)), (.int (0 : Int32))]))
          refine Goes.go (fun t => XS.icmpNo X13.here hx rfl (hb hby at_195) rfl (Jvm.Free.XT.ii_ne_f (by decide))) ?_
          show Goes p e below _ (T13.setTop (mkF m 198 #[.val (.long q0), .second, .val (.long q1), .second, .val (.int p2), .val (.int (p2 &&& (7 : Int32))), .val (.ref b1), .val (.ref b4), .val (.int (0 : Int32))] []))
          refine Goes.go (fun t => XS.iconst X13.here hx rfl (hb hby at_198)) ?_
          show Goes p e below _ (T13.setTop (mkF m 199 #[.val (.long q0), .second, .val (.long q1), .second, .val (.int p2), .val (.int (p2 &&& (7 : Int32))), .val (.ref b1), .val (.ref b4), .val (.int (0 : Int32))] [(.int (1 : Int32))]))
          refine Goes.go (fun t => XS.goto X13.here hx rfl (pc0 := 199) (pc' := 203) rfl (hb hby at_199) (by decide) (by decide)) ?_
          show Goes p e below _ (T13.setTop (mkF m 203 #[.val (.long q0), .second, .val (.long q1), .second, .val (.int p2), .val (.int (p2 &&& (7 : Int32))), .val (.ref b1), .val (.ref b4), .val (.int (0 : Int32))] [(.int (1 : Int32))]))
          exact Goes.out X13 (fun h => by rw [Bd.returns] at h; cases h) Bd.notSynchronized (fun fs hr => retN X13 hx (t := .boolean) Bd.returns (by simp) (hb hby at_203) hr) ⟨rfl, N13⟩ (by decide) (by decide)
        · refine Goes.go (fun t => XS.icmpYes X2.here hx rfl (pc0 := 88) (pc' := 107) rfl (hb hby at_88) rfl (Jvm.Free.XT.ii_ne_t hc88) (by decide) (by decide)) ?_
          show Goes p e below _ (T2.setTop (mkF m 107 #[.val (.long q0), .second, .val (.long q1), .second, .val (.int p2), .val (.int (p2 &&& (7 : Int32))), .val (.ref b1), .unset, .unset] []))
          refine Goes.go (fun t => XS.iload X2.here hx rfl (hb hby at_107) rfl ) ?_
          show Goes p e below _ (T2.setTop (mkF m 109 #[.val (.long q0), .second, .val (.long q1), .second, .val (.int p2), .val (.int (p2 &&& (7 : Int32))), .val (.ref b1), .unset, .unset] [(.int (p2 &&& (7 : Int32)))]))
          refine Goes.go (fun t => XS.iconst X2.here hx rfl (hb hby at_109)) ?_
          show Goes p e below _ (T2.setTop (mkF m 110 #[.val (.long q0), .second, .val (.long q1), .second, .val (.int p2), .val (.int (p2 &&& (7 : Int32))), .val (.ref b1), .unset, .unset] [(.int (4 : Int32)), (.int (p2 &&& (7 : Int32)))]))
          by_cases hc110 : (p2 &&& (7 : Int32)) = (4 : Int32)
          · refine Goes.go (fun t => XS.icmpNo X2.here hx rfl (hb hby at_110) rfl (Jvm.Free.XT.ii_ne_f hc110)) ?_
            show Goes p e below _ (T2.setTop (mkF m 113 #[.val (.long q0), .second, .val (.long q1), .second, .val (.int p2), .val (.int (p2 &&& (7 : Int32))), .val (.ref b1), .unset, .unset] []))
            refine Goes.go (fun t => XS.lloadN X2.here hx rfl (hb hby at_113) rfl ) ?_
            show Goes p e below _ (T2.setTop (mkF m 114 #[.val (.long q0), .second, .val (.long q1), .second, .val (.int p2), .val (.int (p2 &&& (7 : Int32))), .val (.ref b1), .unset, .unset] [(.long q0)]))
            obtain ⟨_, _, ⟨T14, L14, k14, n14⟩, -, X14, ⟨Lc14, hQ14, l14, y14, z14⟩, st14⟩ := Jvm.LawKit.callS X2 hx (y := (⟨"java/lang/Long", "valueOf", "(J)Ljava/lang/Long;"⟩ : MethodName)) hown (mvT hZ (hw _ (List.mem_of_getElem? (i := 29) rfl))) (mvT hZ (hw _ (List.mem_of_getElem? (i := 30) rfl))) (mvT hZ (hw _ (List.mem_of_getElem? (i := 31) rfl))) (mvT hZ (hw _ (List.mem_of_getElem? (i := 32) rfl))) (by decide) (backOf (W := 0) (rmVO l Z a0 hw [] q0 w cl T2.heap n0 Z2 O2 S_c A_c Sz_c El_c) hZ (hw _ (List.mem_of_getElem? (i := 32) rfl)) (hw _ (List.mem_of_getElem? (i := 31) rfl)) (by decide) (by decide)) (g := (mkF m 114 #[.val (.long q0), .second, .val (.long q1), .second, .val (.int p2), .val (.int (p2 &&& (7 : Int32))), .val (.ref b1), .unset, .unset] [(.long q0)])) rfl (by rw [hml]; rfl) (argsL := [(.long q0)]) (rest := []) (lenOf pd0_2 rfl) rfl (by show 2 * 0 + _ ≤ _; exact Nat.le_of_eq rfl) (hb hby at_114) (fun _ _ => ⟨rfl, rfl, (by decide : 1 + 1 ≤ _), (by decide : 1 + 1 ≤ _)⟩)
            dsimp only [Pt.U, Pt.locs, Pt.cells, Pt.slots] at X14 l14 y14 z14 st14 hQ14
            subst l14 y14 z14
            obtain ⟨bl, rfl, N14q, K14, E_bl⟩ := hQ14
            have N14 := Fr.app N2 N14q
            refine Goes.go st14 ?_
            have Z14 : n0 ≤ T14.heap.size := Nat.le_trans Z2 K14.1
            have O14 : Old Z n0 T14.heap := O2.keep K14 all0
            have E_b1_14 : Exa Z T14.heap b1 "org/ccsds/moims/mo/mal/structures/Time" := E2a.keep K14
            have F_value_b1_14 : Fld Z T14.heap b1 "org/ccsds/moims/mo/mal/structures/Time" "value" "J" (.long q0) := F2a.keep K14 nin0
            show Goes p e below _ (T14.setTop (mkF m 117 #[.val (.long q0), .second, .val (.long q1), .second, .val (.int p2), .val (.int (p2 &&& (7 : Int32))), .val (.ref b1), .unset, .unset] [(.ref bl)]))
            refine Goes.go (fun t => XS.astore X14.here hx rfl (hb hby at_117) rfl rfl (l' := #[.val (.long q0), .second, .val (.long q1), .second, .val (.int p2), .val (.int (p2 &&& (7 : Int32))), .val (.ref b1), .val (.ref bl), .unset]) rfl) ?_
            show Goes p e below _ (T14.setTop (mkF m 119 #[.val (.long q0), .second, .val (.long q1), .second, .val (.int p2), .val (.int (p2 &&& (7 : Int32))), .val (.ref b1), .val (.ref bl), .unset] []))
            refine Goes.go (fun t => XS.iconst X14.here hx rfl (hb hby at_119)) ?_
            show Goes p e below _ (T14.setTop (mkF m 120 #[.val (.long q0), .second, .val (.long q1), .second, .val (.int p2), .val (.int (p2 &&& (7 : Int32))), .val (.ref b1), .val (.ref bl), .unset] [(.int (0 : Int32))]))
            refine Goes.go (fun t => XS.istore X14.here hx rfl (hb hby at_120) rfl (l' := #[.val (.long q0), .second, .val (.long q1), .second, .val (.int p2), .val (.int (p2 &&& (7 : Int32))), .val (.ref b1), .val (.ref bl), .val (.int (0 : Int32))]) rfl) ?_
            show Goes p e below _ (T14.setTop (mkF m 122 #[.val (.long q0), .second, .val (.long q1), .second, .val (.int p2), .val (.int (p2 &&& (7 : Int32))), .val (.ref b1), .val (.ref bl), .val (.int (0 : Int32))] []))
            refine Goes.go (fun t => XS.goto X14.here hx rfl (pc0 := 122) (pc' := 186) rfl (hb hby at_122) (by decide) (by decide)) ?_
            show Goes p e below _ (T14.setTop (mkF m 186 #[.val (.long q0), .second, .val (.long q1), .second, .val (.int p2), .val (.int (p2 &&& (7 : Int32))), .val (.ref b1), .val (.ref bl), .val (.int (0 : Int32))] []))
            refine Goes.go (fun t => XS.aload X14.here hx rfl (hb hby at_186) rfl rfl ) ?_
            show Goes p e below _ (T14.setTop (mkF m 188 #[.val (.long q0), .second, .val (.long q1), .second, .val (.int p2), .val (.int (p2 &&& (7 : Int32))), .val (.ref b1), .val (.ref bl), .val (.int (0 : Int32))] [(.ref b1)]))
            refine Goes.go (fun t => XS.aload X14.here hx rfl (hb hby at_188) rfl rfl ) ?_
            show Goes p e below _ (T14.setTop (mkF m 190 #[.val (.long q0), .second, .val (.long q1), .second, .val (.int p2), .val (.int (p2 &&& (7 : Int32))), .val (.ref b1), .val (.ref bl), .val (.int (0 : Int32))] [(.ref bl), (.ref b1)]))
            obtain ⟨cq15, kq15, q15a, q15b, q15c⟩ := isOf hZ rfl E_b1_14
            obtain ⟨_, _, ⟨T15, L15, k15, n15⟩, -, X15, ⟨Lc15, hQ15, l15, y15, z15⟩, st15⟩ := X14.virtualBack hx (y := (⟨"org/ccsds/moims/mo/mal/structures/Time", "equals", "(Ljava/lang/Object;)Z"⟩ : MethodName)) (z := (⟨"org/ccsds/moims/mo/mal/structures/Time", "equals", "(Ljava/lang/Object;)Z"⟩ : MethodName)) hown (mvT hZ (hw _ (List.mem_of_getElem? (i := 11) rfl))) (mvT hZ (hw _ (List.mem_of_getElem? (i := 12) rfl))) (notFace_of_selects (args := #[]) (mvT hZ (hw _ (List.mem_of_getElem? (i := 14) rfl)))) (mvT hZ (hw _ (List.mem_of_getElem? (i := 14) rfl))) (mvT hZ (hw _ (List.mem_of_getElem? (i := 13) rfl))) (by decide) (backOf (W := 0) (rmEO l Z a0 hw [] b1 bl "java/lang/Long" T14.heap n0 Z14 E_bl (own_noins E_bl (hw _ (List.mem_of_getElem? (i := 1) rfl)) (hw _ (List.mem_of_getElem? (i := 50) rfl)) (by decide) (own_nosub.up (hw _ (List.mem_of_getElem? (i := 50) rfl)) (by decide) (own_nosub.up (hw _ (List.mem_of_getElem? (i := 51) rfl)) (by decide) (own_nosub.top (hw _ (List.mem_of_getElem? (i := 28) rfl)) (by decide)))))) hZ (hw _ (List.mem_of_getElem? (i := 15) rfl)) (hw _ (List.mem_of_getElem? (i := 2) rfl)) (by decide) (by decide)) q15a q15c (g := (mkF m 190 #[.val (.long q0), .second, .val (.long q1), .second, .val (.int p2), .val (.int (p2 &&& (7 : Int32))), .val (.ref b1), .val (.ref bl), .val (.int (0 : Int32))] [(.ref bl), (.ref b1)])) rfl (by rw [hml]; rfl) (Steps.refl _) (argsL := [(.ref bl)]) (rest := []) (lenOf pd0_1 rfl) rfl (by show 2 * 0 + _ ≤ _; exact Nat.le_of_eq rfl) (hb hby at_190) (fun _ _ => ⟨rfl, rfl, (by decide : 2 + 0 ≤ _), (by decide : 2 + 0 ≤ _)⟩)
            dsimp only [Pt.U, Pt.locs, Pt.cells, Pt.slots] at X15 l15 y15 z15 st15 hQ15
            subst l15 y15 z15
            obtain ⟨rfl, N15q, e15q⟩ := hQ15
            have N15 := Fr.app N14 N15q
            refine Goes.via st15 ?_
            have Z15 : n0 ≤ T15.heap.size := by rw [e15q]; exact Z14
            have O15 : Old Z n0 T15.heap := by rw [e15q]; exact O14
            have E_b1_15 : Exa Z T15.heap b1 "org/ccsds/moims/mo/mal/structures/Time" := by rw [e15q]; exact E_b1_14
            have F_value_b1_15 : Fld Z T15.heap b1 "org/ccsds/moims/mo/mal/structures/Time" "value" "J" (.long q0) := by rw [e15q]; exact F_value_b1_14
            have E_bl_15 : Exa Z T15.heap bl "java/lang/Long" := by rw [e15q]; exact E_bl
            show Goes p e below _ (T15.setTop (mkF m 193 #[.val (.long q0), .second, .val (.long q1), .second, .val (.int p2), .val (.int (p2 &&& (7 : Int32))), .val (.ref b1), .val (.ref bl), .val (.int (0 : Int32))] [(.int (0 : Int32))]))
            refine Goes.go (fun t => XS.iload X15.here hx rfl (hb hby at_193) rfl ) ?_
            show Goes p e below _ (T15.setTop (mkF m 195 #[.val (.long q0), .second, .val (.long q1), .second, .val (.int p2), .val (.int (p2 &&& (7 : Int32))), .val (.ref b1), .val (.ref bl), .val (.int (0 : Int32))] [(.int (0 : Int32)), (.int (0 : Int32))]))
            refine Goes.go (fun t => XS.icmpNo X15.here hx rfl (hb hby at_195) rfl (Jvm.Free.XT.ii_ne_f (by decide))) ?_
            show Goes p e below _ (T15.setTop (mkF m 198 #[.val (.long q0), .second, .val (.long q1), .second, .val (.int p2), .val (.int (p2 &&& (7 : Int32))), .val (.ref b1), .val (.ref bl), .val (.int (0 : Int32))] []))
            refine Goes.go (fun t => XS.iconst X15.here hx rfl (hb hby at_198)) ?_
            show Goes p e below _ (T15.setTop (mkF m 199 #[.val (.long q0), .second, .val (.long q1), .second, .val (.int p2), .val (.int (p2 &&& (7 : Int32))), .val (.ref b1), .val (.ref bl), .val (.int (0 : Int32))] [(.int (1 : Int32))]))
            refine Goes.go (fun t => XS.goto X15.here hx rfl (pc0 := 199) (pc' := 203) rfl (hb hby at_199) (by decide) (by decide)) ?_
            show Goes p e below _ (T15.setTop (mkF m 203 #[.val (.long q0), .second, .val (.long q1), .second, .val (.int p2), .val (.int (p2 &&& (7 : Int32))), .val (.ref b1), .val (.ref bl), .val (.int (0 : Int32))] [(.int (1 : Int32))]))
            exact Goes.out X15 (fun h => by rw [Bd.returns] at h; cases h) Bd.notSynchronized (fun fs hr => retN X15 hx (t := .boolean) Bd.returns (by simp) (hb hby at_203) hr) ⟨rfl, N15⟩ (by decide) (by decide)
          · refine Goes.go (fun t => XS.icmpYes X2.here hx rfl (pc0 := 110) (pc' := 125) rfl (hb hby at_110) rfl (Jvm.Free.XT.ii_ne_t hc110) (by decide) (by decide)) ?_
            show Goes p e below _ (T2.setTop (mkF m 125 #[.val (.long q0), .second, .val (.long q1), .second, .val (.int p2), .val (.int (p2 &&& (7 : Int32))), .val (.ref b1), .unset, .unset] []))
            refine Goes.go (fun t => XS.iload X2.here hx rfl (hb hby at_125) rfl ) ?_
            show Goes p e below _ (T2.setTop (mkF m 127 #[.val (.long q0), .second, .val (.long q1), .second, .val (.int p2), .val (.int (p2 &&& (7 : Int32))), .val (.ref b1), .unset, .unset] [(.int (p2 &&& (7 : Int32)))]))
            refine Goes.go (fun t => XS.iconst X2.here hx rfl (hb hby at_127)) ?_
            show Goes p e below _ (T2.setTop (mkF m 128 #[.val (.long q0), .second, .val (.long q1), .second, .val (.int p2), .val (.int (p2 &&& (7 : Int32))), .val (.ref b1), .unset, .unset] [(.int (5 : Int32)), (.int (p2 &&& (7 : Int32)))]))
            by_cases hc128 : (p2 &&& (7 : Int32)) = (5 : Int32)
            · refine Goes.go (fun t => XS.icmpNo X2.here hx rfl (hb hby at_128) rfl (Jvm.Free.XT.ii_ne_f hc128)) ?_
              show Goes p e below _ (T2.setTop (mkF m 131 #[.val (.long q0), .second, .val (.long q1), .second, .val (.int p2), .val (.int (p2 &&& (7 : Int32))), .val (.ref b1), .unset, .unset] []))
              refine Goes.go (fun t => XS.aload X2.here hx rfl (hb hby at_131) rfl rfl ) ?_
              show Goes p e below _ (T2.setTop (mkF m 133 #[.val (.long q0), .second, .val (.long q1), .second, .val (.int p2), .val (.int (p2 &&& (7 : Int32))), .val (.ref b1), .unset, .unset] [(.ref b1)]))
              refine Goes.go (fun t => XS.astore X2.here hx rfl (hb hby at_133) rfl rfl (l' := #[.val (.long q0), .second, .val (.long q1), .second, .val (.int p2), .val (.int (p2 &&& (7 : Int32))), .val (.ref b1), .val (.ref b1), .unset]) rfl) ?_
              show Goes p e below _ (T2.setTop (mkF m 135 #[.val (.long q0), .second, .val (.long q1), .second, .val (.int p2), .val (.int (p2 &&& (7 : Int32))), .val (.ref b1), .val (.ref b1), .unset] []))
              refine Goes.go (fun t => XS.iconst X2.here hx rfl (hb hby at_135)) ?_
              show Goes p e below _ (T2.setTop (mkF m 136 #[.val (.long q0), .second, .val (.long q1), .second, .val (.int p2), .val (.int (p2 &&& (7 : Int32))), .val (.ref b1), .val (.ref b1), .unset] [(.int (1 : Int32))]))
              refine Goes.go (fun t => XS.istore X2.here hx rfl (hb hby at_136) rfl (l' := #[.val (.long q0), .second, .val (.long q1), .second, .val (.int p2), .val (.int (p2 &&& (7 : Int32))), .val (.ref b1), .val (.ref b1), .val (.int (1 : Int32))]) rfl) ?_
              show Goes p e below _ (T2.setTop (mkF m 138 #[.val (.long q0), .second, .val (.long q1), .second, .val (.int p2), .val (.int (p2 &&& (7 : Int32))), .val (.ref b1), .val (.ref b1), .val (.int (1 : Int32))] []))
              refine Goes.go (fun t => XS.goto X2.here hx rfl (pc0 := 138) (pc' := 186) rfl (hb hby at_138) (by decide) (by decide)) ?_
              show Goes p e below _ (T2.setTop (mkF m 186 #[.val (.long q0), .second, .val (.long q1), .second, .val (.int p2), .val (.int (p2 &&& (7 : Int32))), .val (.ref b1), .val (.ref b1), .val (.int (1 : Int32))] []))
              refine Goes.go (fun t => XS.aload X2.here hx rfl (hb hby at_186) rfl rfl ) ?_
              show Goes p e below _ (T2.setTop (mkF m 188 #[.val (.long q0), .second, .val (.long q1), .second, .val (.int p2), .val (.int (p2 &&& (7 : Int32))), .val (.ref b1), .val (.ref b1), .val (.int (1 : Int32))] [(.ref b1)]))
              refine Goes.go (fun t => XS.aload X2.here hx rfl (hb hby at_188) rfl rfl ) ?_
              show Goes p e below _ (T2.setTop (mkF m 190 #[.val (.long q0), .second, .val (.long q1), .second, .val (.int p2), .val (.int (p2 &&& (7 : Int32))), .val (.ref b1), .val (.ref b1), .val (.int (1 : Int32))] [(.ref b1), (.ref b1)]))
              obtain ⟨cq16, kq16, q16a, q16b, q16c⟩ := isOf hZ rfl E2a
              obtain ⟨_, _, ⟨T16, L16, k16, n16⟩, -, X16, ⟨Lc16, hQ16, l16, y16, z16⟩, st16⟩ := X2.virtualBack hx (y := (⟨"org/ccsds/moims/mo/mal/structures/Time", "equals", "(Ljava/lang/Object;)Z"⟩ : MethodName)) (z := (⟨"org/ccsds/moims/mo/mal/structures/Time", "equals", "(Ljava/lang/Object;)Z"⟩ : MethodName)) hown (mvT hZ (hw _ (List.mem_of_getElem? (i := 11) rfl))) (mvT hZ (hw _ (List.mem_of_getElem? (i := 12) rfl))) (notFace_of_selects (args := #[]) (mvT hZ (hw _ (List.mem_of_getElem? (i := 14) rfl)))) (mvT hZ (hw _ (List.mem_of_getElem? (i := 14) rfl))) (mvT hZ (hw _ (List.mem_of_getElem? (i := 13) rfl))) (by decide) (backOf (W := 0) (rmEF l Z a0 hw [] b1 b1 q0 q0 (1 : Int32) T2.heap n0 Z2 E2a F2a E2a F2a (if_pos rfl)) hZ (hw _ (List.mem_of_getElem? (i := 15) rfl)) (hw _ (List.mem_of_getElem? (i := 2) rfl)) (by decide) (by decide)) q16a q16c (g := (mkF m 190 #[.val (.long q0), .second, .val (.long q1), .second, .val (.int p2), .val (.int (p2 &&& (7 : Int32))), .val (.ref b1), .val (.ref b1), .val (.int (1 : Int32))] [(.ref b1), (.ref b1)])) rfl (by rw [hml]; rfl) (Steps.refl _) (argsL := [(.ref b1)]) (rest := []) (lenOf pd0_1 rfl) rfl (by show 2 * 0 + _ ≤ _; exact Nat.le_of_eq rfl) (hb hby at_190) (fun _ _ => ⟨rfl, rfl, (by decide : 1 + 0 ≤ _), (by decide : 1 + 0 ≤ _)⟩)
              dsimp only [Pt.U, Pt.locs, Pt.cells, Pt.slots] at X16 l16 y16 z16 st16 hQ16
              subst l16 y16 z16
              obtain ⟨rfl, N16q, e16q⟩ := hQ16
              have N16 := Fr.app N2 N16q
              refine Goes.via st16 ?_
              have Z16 : n0 ≤ T16.heap.size := by rw [e16q]; exact Z2
              have O16 : Old Z n0 T16.heap := by rw [e16q]; exact O2
              have E_b1_16 : Exa Z T16.heap b1 "org/ccsds/moims/mo/mal/structures/Time" := by rw [e16q]; exact E2a
              have F_value_b1_16 : Fld Z T16.heap b1 "org/ccsds/moims/mo/mal/structures/Time" "value" "J" (.long q0) := by rw [e16q]; exact F2a
              show Goes p e below _ (T16.setTop (mkF m 193 #[.val (.long q0), .second, .val (.long q1), .second, .val (.int p2), .val (.int (p2 &&& (7 : Int32))), .val (.ref b1), .val (.ref b1), .val (.int (1 : Int32))] [(.int (1 : Int32))]))
              refine Goes.go (fun t => XS.iload X16.here hx rfl (hb hby at_193) rfl ) ?_
              show Goes p e below _ (T16.setTop (mkF m 195 #[.val (.long q0), .second, .val (.long q1), .second, .val (.int p2), .val (.int (p2 &&& (7 : Int32))), .val (.ref b1), .val (.ref b1), .val (.int (1 : Int32))] [(.int (1 : Int32)), (.int (1 : Int32))]))
              refine Goes.go (fun t => XS.icmpNo X16.here hx rfl (hb hby at_195) rfl (Jvm.Free.XT.ii_ne_f (by decide))) ?_
              show Goes p e below _ (T16.setTop (mkF m 198 #[.val (.long q0), .second, .val (.long q1), .second, .val (.int p2), .val (.int (p2 &&& (7 : Int32))), .val (.ref b1), .val (.ref b1), .val (.int (1 : Int32))] []))
              refine Goes.go (fun t => XS.iconst X16.here hx rfl (hb hby at_198)) ?_
              show Goes p e below _ (T16.setTop (mkF m 199 #[.val (.long q0), .second, .val (.long q1), .second, .val (.int p2), .val (.int (p2 &&& (7 : Int32))), .val (.ref b1), .val (.ref b1), .val (.int (1 : Int32))] [(.int (1 : Int32))]))
              refine Goes.go (fun t => XS.goto X16.here hx rfl (pc0 := 199) (pc' := 203) rfl (hb hby at_199) (by decide) (by decide)) ?_
              show Goes p e below _ (T16.setTop (mkF m 203 #[.val (.long q0), .second, .val (.long q1), .second, .val (.int p2), .val (.int (p2 &&& (7 : Int32))), .val (.ref b1), .val (.ref b1), .val (.int (1 : Int32))] [(.int (1 : Int32))]))
              exact Goes.out X16 (fun h => by rw [Bd.returns] at h; cases h) Bd.notSynchronized (fun fs hr => retN X16 hx (t := .boolean) Bd.returns (by simp) (hb hby at_203) hr) ⟨rfl, N16⟩ (by decide) (by decide)
            · refine Goes.go (fun t => XS.icmpYes X2.here hx rfl (pc0 := 128) (pc' := 141) rfl (hb hby at_128) rfl (Jvm.Free.XT.ii_ne_t hc128) (by decide) (by decide)) ?_
              show Goes p e below _ (T2.setTop (mkF m 141 #[.val (.long q0), .second, .val (.long q1), .second, .val (.int p2), .val (.int (p2 &&& (7 : Int32))), .val (.ref b1), .unset, .unset] []))
              refine Goes.go (fun t => XS.iload X2.here hx rfl (hb hby at_141) rfl ) ?_
              show Goes p e below _ (T2.setTop (mkF m 143 #[.val (.long q0), .second, .val (.long q1), .second, .val (.int p2), .val (.int (p2 &&& (7 : Int32))), .val (.ref b1), .unset, .unset] [(.int (p2 &&& (7 : Int32)))]))
              refine Goes.go (fun t => XS.bipush X2.here hx rfl (hb hby at_143)) ?_
              show Goes p e below _ (T2.setTop (mkF m 145 #[.val (.long q0), .second, .val (.long q1), .second, .val (.int p2), .val (.int (p2 &&& (7 : Int32))), .val (.ref b1), .unset, .unset] [(.int (6 : Int32)), (.int (p2 &&& (7 : Int32)))]))
              by_cases hc145 : (p2 &&& (7 : Int32)) = (6 : Int32)
              · refine Goes.go (fun t => XS.icmpNo X2.here hx rfl (hb hby at_145) rfl (Jvm.Free.XT.ii_ne_f hc145)) ?_
                show Goes p e below _ (T2.setTop (mkF m 148 #[.val (.long q0), .second, .val (.long q1), .second, .val (.int p2), .val (.int (p2 &&& (7 : Int32))), .val (.ref b1), .unset, .unset] []))
                obtain ⟨T17, h17, X17, e17, E17, A17, D17, -, st17⟩ := newO X2 hx hZ hown (hw _ (List.mem_of_getElem? (i := 0) rfl)) (hw _ (List.mem_of_getElem? (i := 1) rfl)) (hw _ (List.mem_of_getElem? (i := 2) rfl)) rfl (g := (mkF m 148 #[.val (.long q0), .second, .val (.long q1), .second, .val (.int p2), .val (.int (p2 &&& (7 : Int32))), .val (.ref b1), .unset, .unset] [])) rfl (hb hby at_148) (by decide) (by decide)
                obtain ⟨b5, gq_b5⟩ : ∃ z, z = T2.heap.size := ⟨_, rfl⟩
                rw [← gq_b5] at A17 D17 st17
                have g_b5 : n0 ≤ b5 := Nat.le_trans Z2 (Nat.le_of_eq gq_b5.symm)
                have ne_b1_b5 : b1 ≠ b5 := Nat.ne_of_lt (Nat.lt_of_lt_of_le E2a.lt (Nat.le_of_eq gq_b5.symm))
                have Z17 : n0 ≤ h17.size := Nat.le_trans Z2 E17.1
                have O17 : Old Z n0 h17 := O2.ext E17
                have E_b1_17 : Exa Z h17 b1 "org/ccsds/moims/mo/mal/structures/Time" := E2a.ext E17
                have F_value_b1_17 : Fld Z h17 b1 "org/ccsds/moims/mo/mal/structures/Time" "value" "J" (.long q0) := F2a.ext E17
                have F_value_b5_17 : Fld Z h17 b5 "org/ccsds/moims/mo/mal/structures/Time" "value" "J" (.long (0 : Int64)) := D17 (Or.inr (hw _ (List.mem_of_getElem? (i := 10) rfl))) (ty := .long) (by decide)
                refine Goes.go st17 ?_
                show Goes p e below _ (T17.setTop (mkF m 151 #[.val (.long q0), .second, .val (.long q1), .second, .val (.int p2), .val (.int (p2 &&& (7 : Int32))), .val (.ref b1), .unset, .unset] [(.ref b5)]))
                refine Goes.go (fun t => XS.dup X17.here hx rfl (hb hby at_151) rfl rfl) ?_
                show Goes p e below _ (T17.setTop (mkF m 152 #[.val (.long q0), .second, .val (.long q1), .second, .val (.int p2), .val (.int (p2 &&& (7 : Int32))), .val (.ref b1), .unset, .unset] [(.ref b5), (.ref b5)]))
                refine Goes.go (fun t => XS.lloadN X17.here hx rfl (hb hby at_152) rfl ) ?_
                show Goes p e below _ (T17.setTop (mkF m 153 #[.val (.long q0), .second, .val (.long q1), .second, .val (.int p2), .val (.int (p2 &&& (7 : Int32))), .val (.ref b1), .unset, .unset] [(.long q0), (.ref b5), (.ref b5)]))
                refine Goes.go (fun t => XS.lconst X17.here hx rfl (hb hby at_153)) ?_
                show Goes p e below _ (T17.setTop (mkF m 154 #[.val (.long q0), .second, .val (.long q1), .second, .val (.int p2), .val (.int (p2 &&& (7 : Int32))), .val (.ref b1), .unset, .unset] [(.long (1 : Int64)), (.long q0), (.ref b5), (.ref b5)]))
                refine Goes.go (fun t => XS.lloadN X17.here hx rfl (hb hby at_154) rfl ) ?_
                show Goes p e below _ (T17.setTop (mkF m 155 #[.val (.long q0), .second, .val (.long q1), .second, .val (.int p2), .val (.int (p2 &&& (7 : Int32))), .val (.ref b1), .unset, .unset] [(.long q1), (.long (1 : Int64)), (.long q0), (.ref b5), (.ref b5)]))
                refine Goes.go (fun t => X17.ldc2J hx hown (mvT hZ (hw _ (List.mem_of_getElem? (i := 54) rfl))) rfl (hb hby at_155)) ?_
                show Goes p e below _ (T17.setTop (mkF m 158 #[.val (.long q0), .second, .val (.long q1), .second, .val (.int p2), .val (.int (p2 &&& (7 : Int32))), .val (.ref b1), .unset, .unset] [(.long (63 : Int64)), (.long q1), (.long (1 : Int64)), (.long q0), (.ref b5), (.ref b5)]))
                refine Goes.go (fun t => XS.land X17.here hx rfl (hb hby at_158) rfl) ?_
                show Goes p e below _ (T17.setTop (mkF m 159 #[.val (.long q0), .second, .val (.long q1), .second, .val (.int p2), .val (.int (p2 &&& (7 : Int32))), .val (.ref b1), .unset, .unset] [(.long (q1 &&& (63 : Int64))), (.long (1 : Int64)), (.long q0), (.ref b5), (.ref b5)]))
                refine Goes.go (fun t => XS.l2i X17.here hx rfl (hb hby at_159) rfl) ?_
                show Goes p e below _ (T17.setTop (mkF m 160 #[.val (.long q0), .second, .val (.long q1), .second, .val (.int p2), .val (.int (p2 &&& (7 : Int32))), .val (.ref b1), .unset, .unset] [(.int ((q1 &&& (63 : Int64)).toInt32)), (.long (1 : Int64)), (.long q0), (.ref b5), (.ref b5)]))
                refine Goes.go (fun t => XS.lshl X17.here hx rfl (hb hby at_160) rfl) ?_
                show Goes p e below _ (T17.setTop (mkF m 161 #[.val (.long q0), .second, .val (.long q1), .second, .val (.int p2), .val (.int (p2 &&& (7 : Int32))), .val (.ref b1), .unset, .unset] [(.long ((1 : Int64) <<< (((q1 &&& (63 : Int64)).toInt32) &&& 0x3f).toInt64)), (.long q0), (.ref b5), (.ref b5)]))
                refine Goes.go (fun t => XS.lxor X17.here hx rfl (hb hby at_161) rfl) ?_
                show Goes p e below _ (T17.setTop (mkF m 162 #[.val (.long q0), .second, .val (.long q1), .second, .val (.int p2), .val (.int (p2 &&& (7 : Int32))), .val (.ref b1), .unset, .unset] [(.long (q0 ^^^ ((1 : Int64) <<< (((q1 &&& (63 : Int64)).toInt32) &&& 0x3f).toInt64))), (.ref b5), (.ref b5)]))
                obtain ⟨_, _, ⟨T18, L18, k18, n18⟩, -, X18, ⟨Lc18, hQ18, l18, y18, z18⟩, st18⟩ := X17.specialBack hx (y := (⟨"org/ccsds/moims/mo/mal/structures/Time", "<init>", "(J)V"⟩ : MethodName)) rfl hown (mvT hZ (hw _ (List.mem_of_getElem? (i := 3) rfl))) (mvT hZ (hw _ (List.mem_of_getElem? (i := 4) rfl))) (mvT hZ (hw _ (List.mem_of_getElem? (i := 5) rfl))) (by decide) (backOf (W := 1) (rmTI l Z a0 hw [] b5 (q0 ^^^ ((1 : Int64) <<< (((q1 &&& (63 : Int64)).toInt32) &&& 0x3f).toInt64)) h17 n0 Z17 A17 F_value_b5_17 g_b5) hZ (hw _ (List.mem_of_getElem? (i := 5) rfl)) (hw _ (List.mem_of_getElem? (i := 2) rfl)) (by decide) (by decide)) (g := (mkF m 162 #[.val (.long q0), .second, .val (.long q1), .second, .val (.int p2), .val (.int (p2 &&& (7 : Int32))), .val (.ref b1), .unset, .unset] [(.long (q0 ^^^ ((1 : Int64) <<< (((q1 &&& (63 : Int64)).toInt32) &&& 0x3f).toInt64))), (.ref b5), (.ref b5)])) rfl (by rw [hml]; rfl) (Steps.refl _) (a := b5) (argsL := [(.long (q0 ^^^ ((1 : Int64) <<< (((q1 &&& (63 : Int64)).toInt32) &&& 0x3f).toInt64)))]) (rest := [(.ref b5)]) (lenOf pd0_0 rfl) rfl (by show 2 * 0 + _ ≤ _; exact Nat.le_of_eq rfl) (hb hby at_162) (fun _ _ => ⟨rfl, e17, (by decide : 2 + 0 ≤ _), (by decide : 2 + 0 ≤ _)⟩)
                dsimp only [Pt.U, Pt.locs, Pt.cells, Pt.slots] at X18 l18 y18 z18 st18 hQ18
                subst l18 y18 z18
                obtain ⟨rfl, N18q, K18, E18a, F18a⟩ := hQ18
                have N18 := Fr.app N2 N18q
                refine Goes.via st18 ?_
                have Z18 : n0 ≤ T18.heap.size := Nat.le_trans Z17 K18.1
                have O18 : Old Z n0 T18.heap := O17.keep K18 (allS g_b5 all0)
                have E_b1_18 : Exa Z T18.heap b1 "org/ccsds/moims/mo/mal/structures/Time" := E_b1_17.keep K18
                have F_value_b1_18 : Fld Z T18.heap b1 "org/ccsds/moims/mo/mal/structures/Time" "value" "J" (.long q0) := F_value_b1_17.keep K18 (ninS ne_b1_b5 nin0)
                have E_b5_18 : Exa Z T18.heap b5 "org/ccsds/moims/mo/mal/structures/Time" := A17.keep K18
                show Goes p e below _ (T18.setTop (mkF m 165 #[.val (.long q0), .second, .val (.long q1), .second, .val (.int p2), .val (.int (p2 &&& (7 : Int32))), .val (.ref b1), .unset, .unset] [(.ref b5)]))
                refine Goes.go (fun t => XS.astore X18.here hx rfl (hb hby at_165) rfl rfl (l' := #[.val (.long q0), .second, .val (.long q1), .second, .val (.int p2), .val (.int (p2 &&& (7 : Int32))), .val (.ref b1), .val (.ref b5), .unset]) rfl) ?_
                show Goes p e below _ (T18.setTop (mkF m 167 #[.val (.long q0), .second, .val (.long q1), .second, .val (.int p2), .val (.int (p2 &&& (7 : Int32))), .val (.ref b1), .val (.ref b5), .unset] []))
                refine Goes.go (fun t => XS.iconst X18.here hx rfl (hb hby at_167)) ?_
                show Goes p e below _ (T18.setTop (mkF m 168 #[.val (.long q0), .second, .val (.long q1), .second, .val (.int p2), .val (.int (p2 &&& (7 : Int32))), .val (.ref b1), .val (.ref b5), .unset] [(.int (0 : Int32))]))
                refine Goes.go (fun t => XS.istore X18.here hx rfl (hb hby at_168) rfl (l' := #[.val (.long q0), .second, .val (.long q1), .second, .val (.int p2), .val (.int (p2 &&& (7 : Int32))), .val (.ref b1), .val (.ref b5), .val (.int (0 : Int32))]) rfl) ?_
                show Goes p e below _ (T18.setTop (mkF m 170 #[.val (.long q0), .second, .val (.long q1), .second, .val (.int p2), .val (.int (p2 &&& (7 : Int32))), .val (.ref b1), .val (.ref b5), .val (.int (0 : Int32))] []))
                refine Goes.go (fun t => XS.goto X18.here hx rfl (pc0 := 170) (pc' := 186) rfl (hb hby at_170) (by decide) (by decide)) ?_
                show Goes p e below _ (T18.setTop (mkF m 186 #[.val (.long q0), .second, .val (.long q1), .second, .val (.int p2), .val (.int (p2 &&& (7 : Int32))), .val (.ref b1), .val (.ref b5), .val (.int (0 : Int32))] []))
                refine Goes.go (fun t => XS.aload X18.here hx rfl (hb hby at_186) rfl rfl ) ?_
                show Goes p e below _ (T18.setTop (mkF m 188 #[.val (.long q0), .second, .val (.long q1), .second, .val (.int p2), .val (.int (p2 &&& (7 : Int32))), .val (.ref b1), .val (.ref b5), .val (.int (0 : Int32))] [(.ref b1)]))
                refine Goes.go (fun t => XS.aload X18.here hx rfl (hb hby at_188) rfl rfl ) ?_
                show Goes p e below _ (T18.setTop (mkF m 190 #[.val (.long q0), .second, .val (.long q1), .second, .val (.int p2), .val (.int (p2 &&& (7 : Int32))), .val (.ref b1), .val (.ref b5), .val (.int (0 : Int32))] [(.ref b5), (.ref b1)]))
                obtain ⟨cq19, kq19, q19a, q19b, q19c⟩ := isOf hZ rfl E_b1_18
                obtain ⟨_, _, ⟨T19, L19, k19, n19⟩, -, X19, ⟨Lc19, hQ19, l19, y19, z19⟩, st19⟩ := X18.virtualBack hx (y := (⟨"org/ccsds/moims/mo/mal/structures/Time", "equals", "(Ljava/lang/Object;)Z"⟩ : MethodName)) (z := (⟨"org/ccsds/moims/mo/mal/structures/Time", "equals", "(Ljava/lang/Object;)Z"⟩ : MethodName)) hown (mvT hZ (hw _ (List.mem_of_getElem? (i := 11) rfl))) (mvT hZ (hw _ (List.mem_of_getElem? (i := 12) rfl))) (notFace_of_selects (args := #[]) (mvT hZ (hw _ (List.mem_of_getElem? (i := 14) rfl)))) (mvT hZ (hw _ (List.mem_of_getElem? (i := 14) rfl))) (mvT hZ (hw _ (List.mem_of_getElem? (i := 13) rfl))) (by decide) (backOf (W := 0) (rmEF l Z a0 hw [] b1 b5 q0 (q0 ^^^ ((1 : Int64) <<< (((q1 &&& (63 : Int64)).toInt32) &&& 0x3f).toInt64)) (0 : Int32) T18.heap n0 Z18 E_b1_18 F_value_b1_18 E18a F18a (if_neg (own_flip q0 _))) hZ (hw _ (List.mem_of_getElem? (i := 15) rfl)) (hw _ (List.mem_of_getElem? (i := 2) rfl)) (by decide) (by decide)) q19a q19c (g := (mkF m 190 #[.val (.long q0), .second, .val (.long q1), .second, .val (.int p2), .val (.int (p2 &&& (7 : Int32))), .val (.ref b1), .val (.ref b5), .val (.int (0 : Int32))] [(.ref b5), (.ref b1)])) rfl (by rw [hml]; rfl) (Steps.refl _) (argsL := [(.ref b5)]) (rest := []) (lenOf pd0_1 rfl) rfl (by show 2 * 0 + _ ≤ _; exact Nat.le_of_eq rfl) (hb hby at_190) (fun _ _ => ⟨rfl, rfl, (by decide : 2 + 0 ≤ _), (by decide : 2 + 0 ≤ _)⟩)
                dsimp only [Pt.U, Pt.locs, Pt.cells, Pt.slots] at X19 l19 y19 z19 st19 hQ19
                subst l19 y19 z19
                obtain ⟨rfl, N19q, e19q⟩ := hQ19
                have N19 := Fr.app N18 N19q
                refine Goes.via st19 ?_
                have Z19 : n0 ≤ T19.heap.size := by rw [e19q]; exact Z18
                have O19 : Old Z n0 T19.heap := by rw [e19q]; exact O18
                have E_b1_19 : Exa Z T19.heap b1 "org/ccsds/moims/mo/mal/structures/Time" := by rw [e19q]; exact E_b1_18
                have F_value_b1_19 : Fld Z T19.heap b1 "org/ccsds/moims/mo/mal/structures/Time" "value" "J" (.long q0) := by rw [e19q]; exact F_value_b1_18
                have E_b5_19 : Exa Z T19.heap b5 "org/ccsds/moims/mo/mal/structures/Time" := by rw [e19q]; exact E18a
                have F_value_b5_19 : Fld Z T19.heap b5 "org/ccsds/moims/mo/mal/structures/Time" "value" "J" (.long (q0 ^^^ ((1 : Int64) <<< (((q1 &&& (63 : Int64)).toInt32) &&& 0x3f).toInt64))) := by rw [e19q]; exact F18a
                show Goes p e below _ (T19.setTop (mkF m 193 #[.val (.long q0), .second, .val (.long q1), .second, .val (.int p2), .val (.int (p2 &&& (7 : Int32))), .val (.ref b1), .val (.ref b5), .val (.int (0 : Int32))] [(.int (0 : Int32))]))
                refine Goes.go (fun t => XS.iload X19.here hx rfl (hb hby at_193) rfl ) ?_
                show Goes p e below _ (T19.setTop (mkF m 195 #[.val (.long q0), .second, .val (.long q1), .second, .val (.int p2), .val (.int (p2 &&& (7 : Int32))), .val (.ref b1), .val (.ref b5), .val (.int (0 : Int32))] [(.int (0 : Int32)), (.int (0 : Int32))]))
                refine Goes.go (fun t => XS.icmpNo X19.here hx rfl (hb hby at_195) rfl (Jvm.Free.XT.ii_ne_f (by decide))) ?_
                show Goes p e below _ (T19.setTop (mkF m 198 #[.val (.long q0), .second, .val (.long q1), .second, .val (.int p2), .val (.int (p2 &&& (7 : Int32))), .val (.ref b1), .val (.ref b5), .val (.int (0 : Int32))] []))
                refine Goes.go (fun t => XS.iconst X19.here hx rfl (hb hby at_198)) ?_
                show Goes p e below _ (T19.setTop (mkF m 199 #[.val (.long q0), .second, .val (.long q1), .second, .val (.int p2), .val (.int (p2 &&& (7 : Int32))), .val (.ref b1), .val (.ref b5), .val (.int (0 : Int32))] [(.int (1 : Int32))]))
                refine Goes.go (fun t => XS.goto X19.here hx rfl (pc0 := 199) (pc' := 203) rfl (hb hby at_199) (by decide) (by decide)) ?_
                show Goes p e below _ (T19.setTop (mkF m 203 #[.val (.long q0), .second, .val (.long q1), .second, .val (.int p2), .val (.int (p2 &&& (7 : Int32))), .val (.ref b1), .val (.ref b5), .val (.int (0 : Int32))] [(.int (1 : Int32))]))
                exact Goes.out X19 (fun h => by rw [Bd.returns] at h; cases h) Bd.notSynchronized (fun fs hr => retN X19 hx (t := .boolean) Bd.returns (by simp) (hb hby at_203) hr) ⟨rfl, N19⟩ (by decide) (by decide)
              · refine Goes.go (fun t => XS.icmpYes X2.here hx rfl (pc0 := 145) (pc' := 173) rfl (hb hby at_145) rfl (Jvm.Free.XT.ii_ne_t hc145) (by decide) (by decide)) ?_
                show Goes p e below _ (T2.setTop (mkF m 173 #[.val (.long q0), .second, .val (.long q1), .second, .val (.int p2), .val (.int (p2 &&& (7 : Int32))), .val (.ref b1), .unset, .unset] []))
                obtain ⟨T20, h20, X20, e20, E20, A20, D20, -, st20⟩ := newO X2 hx hZ hown (hw _ (List.mem_of_getElem? (i := 18) rfl)) (hw _ (List.mem_of_getElem? (i := 19) rfl)) (hw _ (List.mem_of_getElem? (i := 20) rfl)) rfl (g := (mkF m 173 #[.val (.long q0), .second, .val (.long q1), .second, .val (.int p2), .val (.int (p2 &&& (7 : Int32))), .val (.ref b1), .unset, .unset] [])) rfl (hb hby at_173) (by decide) (by decide)
                obtain ⟨b6, gq_b6⟩ : ∃ z, z = T2.heap.size := ⟨_, rfl⟩
                rw [← gq_b6] at A20 D20 st20
                have g_b6 : n0 ≤ b6 := Nat.le_trans Z2 (Nat.le_of_eq gq_b6.symm)
                have ne_b1_b6 : b1 ≠ b6 := Nat.ne_of_lt (Nat.lt_of_lt_of_le E2a.lt (Nat.le_of_eq gq_b6.symm))
                have Z20 : n0 ≤ h20.size := Nat.le_trans Z2 E20.1
                have O20 : Old Z n0 h20 := O2.ext E20
                have E_b1_20 : Exa Z h20 b1 "org/ccsds/moims/mo/mal/structures/Time" := E2a.ext E20
                have F_value_b1_20 : Fld Z h20 b1 "org/ccsds/moims/mo/mal/structures/Time" "value" "J" (.long q0) := F2a.ext E20
                have F_value_b6_20 : Fld Z h20 b6 "org/ccsds/moims/mo/mal/structures/FineTime" "value" "J" (.long (0 : Int64)) := D20 (Or.inr (hw _ (List.mem_of_getElem? (i := 26) rfl))) (ty := .long) (by decide)
                refine Goes.go st20 ?_
                show Goes p e below _ (T20.setTop (mkF m 176 #[.val (.long q0), .second, .val (.long q1), .second, .val (.int p2), .val (.int (p2 &&& (7 : Int32))), .val (.ref b1), .unset, .unset] [(.ref b6)]))
                refine Goes.go (fun t => XS.dup X20.here hx rfl (hb hby at_176) rfl rfl) ?_
                show Goes p e below _ (T20.setTop (mkF m 177 #[.val (.long q0), .second, .val (.long q1), .second, .val (.int p2), .val (.int (p2 &&& (7 : Int32))), .val (.ref b1), .unset, .unset] [(.ref b6), (.ref b6)]))
                refine Goes.go (fun t => XS.lloadN X20.here hx rfl (hb hby at_177) rfl ) ?_
                show Goes p e below _ (T20.setTop (mkF m 178 #[.val (.long q0), .second, .val (.long q1), .second, .val (.int p2), .val (.int (p2 &&& (7 : Int32))), .val (.ref b1), .unset, .unset] [(.long q1), (.ref b6), (.ref b6)]))
                obtain ⟨_, _, ⟨T21, L21, k21, n21⟩, -, X21, ⟨Lc21, hQ21, l21, y21, z21⟩, st21⟩ := X20.specialBack hx (y := (⟨"org/ccsds/moims/mo/mal/structures/FineTime", "<init>", "(J)V"⟩ : MethodName)) rfl hown (mvT hZ (hw _ (List.mem_of_getElem? (i := 21) rfl))) (mvT hZ (hw _ (List.mem_of_getElem? (i := 22) rfl))) (mvT hZ (hw _ (List.mem_of_getElem? (i := 23) rfl))) (by decide) (backOf (W := 1) (rmFI l Z a0 hw [] b6 q1 h20 n0 Z20 A20 F_value_b6_20 g_b6) hZ (hw _ (List.mem_of_getElem? (i := 23) rfl)) (hw _ (List.mem_of_getElem? (i := 20) rfl)) (by decide) (by decide)) (g := (mkF m 178 #[.val (.long q0), .second, .val (.long q1), .second, .val (.int p2), .val (.int (p2 &&& (7 : Int32))), .val (.ref b1), .unset, .unset] [(.long q1), (.ref b6), (.ref b6)])) rfl (by rw [hml]; rfl) (Steps.refl _) (a := b6) (argsL := [(.long q1)]) (rest := [(.ref b6)]) (lenOf pd0_0 rfl) rfl (by show 2 * 0 + _ ≤ _; exact Nat.le_of_eq rfl) (hb hby at_178) (fun _ _ => ⟨rfl, e20, (by decide : 2 + 0 ≤ _), (by decide : 2 + 0 ≤ _)⟩)
                dsimp only [Pt.U, Pt.locs, Pt.cells, Pt.slots] at X21 l21 y21 z21 st21 hQ21
                subst l21 y21 z21
                obtain ⟨rfl, N21q, K21, E21a, F21a⟩ := hQ21
                have N21 := Fr.app N2 N21q
                refine Goes.via st21 ?_
                have Z21 : n0 ≤ T21.heap.size := Nat.le_trans Z20 K21.1
                have O21 : Old Z n0 T21.heap := O20.keep K21 (allS g_b6 all0)
                have E_b1_21 : Exa Z T21.heap b1 "org/ccsds/moims/mo/mal/structures/Time" := E_b1_20.keep K21
                have F_value_b1_21 : Fld Z T21.heap b1 "org/ccsds/moims/mo/mal/structures/Time" "value" "J" (.long q0) := F_value_b1_20.keep K21 (ninS ne_b1_b6 nin0)
                have E_b6_21 : Exa Z T21.heap b6 "org/ccsds/moims/mo/mal/structures/FineTime" := A20.keep K21
                show Goes p e below _ (T21.setTop (mkF m 181 #[.val (.long q0), .second, .val (.long q1), .second, .val (.int p2), .val (.int (p2 &&& (7 : Int32))), .val (.ref b1), .unset, .unset] [(.ref b6)]))
                refine Goes.go (fun t => XS.astore X21.here hx rfl (hb hby at_181) rfl rfl (l' := #[.val (.long q0), .second, .val (.long q1), .second, .val (.int p2), .val (.int (p2 &&& (7 : Int32))), .val (.ref b1), .val (.ref b6), .unset]) rfl) ?_
                show Goes p e below _ (T21.setTop (mkF m 183 #[.val (.long q0), .second, .val (.long q1), .second, .val (.int p2), .val (.int (p2 &&& (7 : Int32))), .val (.ref b1), .val (.ref b6), .unset] []))
                refine Goes.go (fun t => XS.iconst X21.here hx rfl (hb hby at_183)) ?_
                show Goes p e below _ (T21.setTop (mkF m 184 #[.val (.long q0), .second, .val (.long q1), .second, .val (.int p2), .val (.int (p2 &&& (7 : Int32))), .val (.ref b1), .val (.ref b6), .unset] [(.int (0 : Int32))]))
                refine Goes.go (fun t => XS.istore X21.here hx rfl (hb hby at_184) rfl (l' := #[.val (.long q0), .second, .val (.long q1), .second, .val (.int p2), .val (.int (p2 &&& (7 : Int32))), .val (.ref b1), .val (.ref b6), .val (.int (0 : Int32))]) rfl) ?_
                show Goes p e below _ (T21.setTop (mkF m 186 #[.val (.long q0), .second, .val (.long q1), .second, .val (.int p2), .val (.int (p2 &&& (7 : Int32))), .val (.ref b1), .val (.ref b6), .val (.int (0 : Int32))] []))
                refine Goes.go (fun t => XS.aload X21.here hx rfl (hb hby at_186) rfl rfl ) ?_
                show Goes p e below _ (T21.setTop (mkF m 188 #[.val (.long q0), .second, .val (.long q1), .second, .val (.int p2), .val (.int (p2 &&& (7 : Int32))), .val (.ref b1), .val (.ref b6), .val (.int (0 : Int32))] [(.ref b1)]))
                refine Goes.go (fun t => XS.aload X21.here hx rfl (hb hby at_188) rfl rfl ) ?_
                show Goes p e below _ (T21.setTop (mkF m 190 #[.val (.long q0), .second, .val (.long q1), .second, .val (.int p2), .val (.int (p2 &&& (7 : Int32))), .val (.ref b1), .val (.ref b6), .val (.int (0 : Int32))] [(.ref b6), (.ref b1)]))
                obtain ⟨cq22, kq22, q22a, q22b, q22c⟩ := isOf hZ rfl E_b1_21
                obtain ⟨_, _, ⟨T22, L22, k22, n22⟩, -, X22, ⟨Lc22, hQ22, l22, y22, z22⟩, st22⟩ := X21.virtualBack hx (y := (⟨"org/ccsds/moims/mo/mal/structures/Time", "equals", "(Ljava/lang/Object;)Z"⟩ : MethodName)) (z := (⟨"org/ccsds/moims/mo/mal/structures/Time", "equals", "(Ljava/lang/Object;)Z"⟩ : MethodName)) hown (mvT hZ (hw _ (List.mem_of_getElem? (i := 11) rfl))) (mvT hZ (hw _ (List.mem_of_getElem? (i := 12) rfl))) (notFace_of_selects (args := #[]) (mvT hZ (hw _ (List.mem_of_getElem? (i := 14) rfl)))) (mvT hZ (hw _ (List.mem_of_getElem? (i := 14) rfl))) (mvT hZ (hw _ (List.mem_of_getElem? (i := 13) rfl))) (by decide) (backOf (W := 0) (rmEO l Z a0 hw [] b1 b6 "org/ccsds/moims/mo/mal/structures/FineTime" T21.heap n0 Z21 E21a (own_noins E21a (hw _ (List.mem_of_getElem? (i := 1) rfl)) (hw _ (List.mem_of_getElem? (i := 27) rfl)) (by decide) (own_nosub.up (hw _ (List.mem_of_getElem? (i := 27) rfl)) (by decide) (own_nosub.top (hw _ (List.mem_of_getElem? (i := 28) rfl)) (by decide))))) hZ (hw _ (List.mem_of_getElem? (i := 15) rfl)) (hw _ (List.mem_of_getElem? (i := 2) rfl)) (by decide) (by decide)) q22a q22c (g := (mkF m 190 #[.val (.long q0), .second, .val (.long q1), .second, .val (.int p2), .val (.int (p2 &&& (7 : Int32))), .val (.ref b1), .val (.ref b6), .val (.int (0 : Int32))] [(.ref b6), (.ref b1)])) rfl (by rw [hml]; rfl) (Steps.refl _) (argsL := [(.ref b6)]) (rest := []) (lenOf pd0_1 rfl) rfl (by show 2 * 0 + _ ≤ _; exact Nat.le_of_eq rfl) (hb hby at_190) (fun _ _ => ⟨rfl, rfl, (by decide : 2 + 0 ≤ _), (by decide : 2 + 0 ≤ _)⟩)
                dsimp only [Pt.U, Pt.locs, Pt.cells, Pt.slots] at X22 l22 y22 z22 st22 hQ22
                subst l22 y22 z22
                obtain ⟨rfl, N22q, e22q⟩ := hQ22
                have N22 := Fr.app N21 N22q
                refine Goes.via st22 ?_
                have Z22 : n0 ≤ T22.heap.size := by rw [e22q]; exact Z21
                have O22 : Old Z n0 T22.heap := by rw [e22q]; exact O21
                have E_b1_22 : Exa Z T22.heap b1 "org/ccsds/moims/mo/mal/structures/Time" := by rw [e22q]; exact E_b1_21
                have F_value_b1_22 : Fld Z T22.heap b1 "org/ccsds/moims/mo/mal/structures/Time" "value" "J" (.long q0) := by rw [e22q]; exact F_value_b1_21
                have E_b6_22 : Exa Z T22.heap b6 "org/ccsds/moims/mo/mal/structures/FineTime" := by rw [e22q]; exact E21a
                have F_value_b6_22 : Fld Z T22.heap b6 "org/ccsds/moims/mo/mal/structures/FineTime" "value" "J" (.long q1) := by rw [e22q]; exact F21a
                show Goes p e below _ (T22.setTop (mkF m 193 #[.val (.long q0), .second, .val (.long q1), .second, .val (.int p2), .val (.int (p2 &&& (7 : Int32))), .val (.ref b1), .val (.ref b6), .val (.int (0 : Int32))] [(.int (0 : Int32))]))
                refine Goes.go (fun t => XS.iload X22.here hx rfl (hb hby at_193) rfl ) ?_
                show Goes p e below _ (T22.setTop (mkF m 195 #[.val (.long q0), .second, .val (.long q1), .second, .val (.int p2), .val (.int (p2 &&& (7 : Int32))), .val (.ref b1), .val (.ref b6), .val (.int (0 : Int32))] [(.int (0 : Int32)), (.int (0 : Int32))]))
                refine Goes.go (fun t => XS.icmpNo X22.here hx rfl (hb hby at_195) rfl (Jvm.Free.XT.ii_ne_f (by decide))) ?_
                show Goes p e below _ (T22.setTop (mkF m 198 #[.val (.long q0), .second, .val (.long q1), .second, .val (.int p2), .val (.int (p2 &&& (7 : Int32))), .val (.ref b1), .val (.ref b6), .val (.int (0 : Int32))] []))
                refine Goes.go (fun t => XS.iconst X22.here hx rfl (hb hby at_198)) ?_
                show Goes p e below _ (T22.setTop (mkF m 199 #[.val (.long q0), .second, .val (.long q1), .second, .val (.int p2), .val (.int (p2 &&& (7 : Int32))), .val (.ref b1), .val (.ref b6), .val (.int (0 : Int32))] [(.int (1 : Int32))]))
                refine Goes.go (fun t => XS.goto X22.here hx rfl (pc0 := 199) (pc' := 203) rfl (hb hby at_199) (by decide) (by decide)) ?_
                show Goes p e below _ (T22.setTop (mkF m 203 #[.val (.long q0), .second, .val (.long q1), .second, .val (.int p2), .val (.int (p2 &&& (7 : Int32))), .val (.ref b1), .val (.ref b6), .val (.int (0 : Int32))] [(.int (1 : Int32))]))
                exact Goes.out X22 (fun h => by rw [Bd.returns] at h; cases h) Bd.notSynchronized (fun fs hr => retN X22 hx (t := .boolean) Bd.returns (by simp) (hb hby at_203) hr) ⟨rfl, N22⟩ (by decide) (by decide)
theorem own_len {args : Array Value} {s : State} {t : Term} {w : Addr} {cl : Cell} {k : Nat} (ew : t.eval args s none [] s = some (.ref w)) (hat : s.arrayAt? w = some cl) (h : (Jvm.Cond.eq (Term.length t) (Term.int (Nat.toInt32 k))).value args s none s [] = some true) (hk : k < 2 ^ 31) : cl.slots.size = k := by
  obtain ⟨u, v, g1, -⟩ := cmp_v (Or.inl h)
  have hs : cl.slots.size < 2 ^ 31 := by
    rcases Nat.lt_or_ge cl.slots.size (2 ^ 31) with q | q
    · exact q
    · exact absurd g1 (by simp [Term.eval, ew, hat, Nat.not_lt.mpr q])
  have h1 := len_f ew hat hs
  have h2 : (Term.int (Nat.toInt32 k)).eval args s none [] s = some (.int (Nat.toInt32 k)) := Term.int_eval _
  have h3 : (Jvm.Cond.eq (Term.length t) (Term.int (Nat.toInt32 k))).value args s none s [] = some (decide (cl.slots.size.toInt32 = Nat.toInt32 k)) := by simp [Cond.value, h1, h2]
  have h4 := gotT h3 h
  have h5 := congrArg Int32.toInt h4
  rw [len_toInt hs, len_toInt hk] at h5
  omega
theorem own_el {args : Array Value} {s : State} {t : Term} {w : Addr} {cl : Cell} {i : Nat} {C : String} (ew : t.eval args s none [i] s = some (.ref w)) (hc : s.heap[w]? = some cl) (hs : i < 2 ^ 31) (h : (Jvm.Cond.exactly (Term.elem t (Term.index 0)) C).value args s none s [i] = some true) : ∃ b : Addr, cl.slots[i]? = some (.ref b) ∧ Exa s s.heap b C := by
  obtain ⟨b, c', cell, k, e1, e2, e3, e4, e5, rfl, e7⟩ := Cond.exactly_spec (beq_iff_eq.mpr h : (Jvm.Cond.exactly (Term.elem t (Term.index 0)) C).holds args s none s [i] = true)
  have hj : (Term.index 0).eval args s none [i] s = some (.int i.toInt32) := by simp [Term.eval]
  have q := (elem_in e1 ew hj hc).2
  have e : (Nat.toInt32 i).toNatClampNeg = i := by simp only [Int32.toNatClampNeg, len_toInt hs]; rfl
  rw [e] at q
  exact ⟨b, q, cell, k, e3, e2, e4, e5, e7⟩
set_option maxRecDepth 65536 in
set_option maxHeartbeats 40000000 in
theorem comes_1 {Post : Tables → Env → Array Value → State → Outcome → State → Prop} (hpost : ∀ tb e args s v u, (limb_1_1.after args s (.returned v) u = true ∧ limb_1_2.after args s (.returned v) u = true ∧ True) → FrameEnd s (.returned v) u (Jvm.fieldLocs frame_1_writes args s ++ Jvm.arrayLocs frame_1_arrays args s ++ Jvm.staticLocs frame_1_statics s) 16 128 → Post tb e args s (.returned v) u) :
    ArmFor flags0 classFile x code maxLocals ret World_1 tables_1 room_1 Calls_1 rest_1 Pre_1 Post := by
  intro l hfl _ _ p e ha hc hk s m args below hf hA hF happ hP
  obtain ⟨hcalls, hrest, hpre⟩ := hP
  obtain ⟨-, -, -, hnamed, -, -, -, hat⟩ := (Spec.applies_iff hf).mp happ
  obtain ⟨hg, hn⟩ := and_e (Cond.before_iff.mp (show (Jvm.Cond.and given_1 narrow_1).before args s = true from hpre))
  obtain ⟨gc, gv0⟩ := and_e hg
  obtain ⟨ga0, gv1⟩ := and_e gv0
  obtain ⟨ga1, gv2⟩ := and_e gv1
  obtain ⟨w0, w1, w2, rfl⟩ : ∃ w0 w1 w2 : Value, args = #[w0, w1, w2] := by
    have hs : args.size = 3 := by simpa [Cond.value, given_1] using gc
    obtain ⟨L⟩ := args
    match L, hs with
    | [w0, w1, w2], _ => exact ⟨w0, w1, w2, rfl⟩
  have hw := fun d (hd : d ∈ tables_1) => atoms_spec (ws := Jvm.Cond.code x code maxLocals ret :: tables_1) hat d (List.mem_cons_of_mem _ hd)
  have hfit : Fit s := fun {y c} hc i hi => by
    obtain ⟨ha, rfl⟩ := Array.getElem?_eq_some_iff.mp hc
    have q := List.all_eq_true.mp ((Array.all_eq_true_iff_forall_mem.mp hF) _ (Array.getElem_mem ha)) i (List.mem_range.mpr hi)
    simpa [Array.getElem?_eq_getElem hi] using q
  obtain ⟨i0, ei0⟩ := isL_v ga0
  obtain rfl : w0 = (.long i0) := Option.some.inj ei0
  obtain ⟨i1, ei1⟩ := isL_v ga1
  obtain rfl : w1 = (.long i1) := Option.some.inj ei1
  obtain ⟨i2, ei2⟩ := is_v gv2
  obtain rfl : w2 = (.int i2) := Option.some.inj ei2
  obtain ⟨hsets, hown0⟩ := atoms_of _ (rest_1_c_eq ▸ (show rest_1_c.before _ s = true from hrest))
  have hA := Cond.before_iff.mp (hsets _ (List.mem_of_getElem? (i := 2) rfl))
  obtain ⟨w, ew⟩ := arr_v hA
  obtain ⟨cl, Ac⟩ := Arr.start ew hA
  have hAt := Ac.fin (Vm.Alike.refl _)
  have hL := Cond.before_iff.mp (hsets _ (List.mem_of_getElem? (i := 4) rfl))
  have Sz : cl.slots.size = 256 := own_len ew hAt hL (by decide)
  have hAll := Cond.all_elim ew hAt (Cond.before_iff.mp (hsets _ (List.mem_of_getElem? (i := 5) rfl)))
  have El : ∀ i, i < 256 → ∃ b : Addr, cl.slots[i]? = some (.ref b) ∧ Exa s s.heap b "java/lang/Long" := fun i hi => own_el ew Ac.1 (Nat.lt_trans hi (by decide)) (and_e (hAll i (by rw [Sz]; exact hi))).1
  obtain ⟨n, o, h1, h2, h3, _, L, rfl, ⟨rfl, N⟩, hq⟩ := rm0 l s _ hw tables_1 i0 i1 i2 w cl s.heap s.heap.size (Nat.le_refl _) (Old.start s) (Sta.start ew (Or.inl (hsets _ (List.mem_of_getElem? (i := 1) rfl)))) Ac Sz El p e ha hc hk s m _ below hf ((Spec.applies_iff_loose hf).mp happ).1 ⟨rfl, State.Warmed39.refl s, rfl⟩ trivial
  refine ⟨n, _, h1, h2, h3, hpost _ _ _ _ _ _ ⟨Cond.after_iff.mpr rfl, Cond.after_iff.mpr (eq_i res_at (Term.int_eval (1)) rfl), trivial⟩ ⟨hq.1, hq.2.1, (hq.2.2.sift fun y hy => Or.inr (N y hy)).mono (by decide) (by decide)⟩⟩
theorem main_1_1 : Claimed_1_1 := comes_1 fun _ _ _ _ _ _ h hF => ⟨h.1, hF⟩
theorem main_1_2 : Claimed_1_2 := comes_1 fun _ _ _ _ _ _ h hF => ⟨h.2.1, hF⟩
end Jvm.Pilot.@@N@@
namespace Jvm.Pilot.@@N@@
open Jvm Jvm.ClassFile Sem Op Lib Jvm.Free Jvm.Stand Jvm.Pilot.@@N@@.Jvm.D
/-! MADE BY PROGRAM (witnessworld.py) out of the Statement's table words and the real class files: 19 classes; the members and pool entries that the words name. The judged class is class 1, her method 1. -/
namespace start1
open Jvm.ClassFile
def u (s : String) : CpInfo := .utf8 (stringToUtf16 s)
/-- a pool by its gaps: so many unusable entries, then the entry; so many at the end -/
def gap : Nat → List CpInfo → List CpInfo
  | 0, r => r
  | n + 1, r => .unusable :: gap n r
def poolList (es : List (Nat × CpInfo)) (last : Nat) : List CpInfo := es.foldr (fun e r => gap e.1 (e.2 :: r)) (gap last [])
def pool (es : List (Nat × CpInfo)) (last : Nat) : Array CpInfo := ⟨poolList es last⟩
def fileOf (pool : Array CpInfo) (this : Nat) (attrs : Array Attribute := #[]) (ms : Array MethodInfo := #[]) (fl : Nat := 33) (sup : Nat := 0) (ifs : Array Nat := #[]) (fds : Array FieldInfo := #[]) : ClassFile where
  minorVersion := 0
  majorVersion := 65
  constantPool := pool
  accessFlags := fl
  thisClass := this
  superClass := sup
  interfaces := ifs
  fields := fds
  methods := ms
  attributes := attrs
def plain (name : String) (sup : Option ClassId) : Class where
  name := name
  kind := .ordinary
  loader := none
  accessFlags := 33
  super := sup
  interfaces := #[]
  cf := none
  fields := #[]
  methods := #[]
  instanceTypes := #[]
  staticTypes := #[]
  resolved := #[]
  callSites := []
  init := .initialized
  statics := none
  mirror := none

def pool0 : Array CpInfo := pool [(5, u "<init>"), (0, u "()V"), (1, .class_ 10), (1, u "java/lang/Object")] 113

def k0c0 : Code := { maxStack := 0, maxLocals := 1, code := object_method_1_code, exceptionTable := #[], attributes := #[] }
def k0m0 : Method := { name := "<init>", desc := "()V", sig := { parameters := [], returnType := none }, accessFlags := 1, code := some k0c0 }
/-- java/lang/Object -/
def k0 : Class := { plain "java/lang/Object" none with
  accessFlags := 33
  interfaces := #[]
  cf := some (fileOf pool0 8 #[] #[{ accessFlags := 1, nameIndex := 5, descriptorIndex := 6, attributes := #[] }] 33 0 #[] #[])
  fields := #[]
  methods := #[k0m0]
  instanceTypes := #[]
  staticTypes := #[]
  resolved := Array.replicate 124 none
  statics := none }

def pool1 : Array CpInfo := pool [(2, .class_ 4), (1, u "java/lang/Object"), (0, u "<init>"), (0, u "()V"), (0, .class_ 8), (0, u "org/ccsds/moims/mo/mal/structures/Time"), (0, .methodref 7 10), (0, .nameAndType 5 11), (0, u "(J)V"), (0, .class_ 13), (0, u "org/ccsds/moims/mo/mal/structures/FineTime"), (0, .methodref 12 10), (0, .methodref 16 17), (0, .class_ 18), (0, .nameAndType 19 20), (0, u "java/lang/Long"), (0, u "valueOf"), (0, u "(J)Ljava/lang/Long;"), (0, .long 63), (1, .methodref 7 24), (0, .nameAndType 25 26), (0, u "equals"), (0, u "(Ljava/lang/Object;)Z"), (0, .class_ 28), (0, u "org/ccsds/moims/mo/mal/structures/TimeEqualsPinLaw"), (2, u "law"), (0, u "(JJI)Z")] 3

def k1m0 : Method := { name := "<init>", desc := "()V", sig := { parameters := [], returnType := none }, accessFlags := 1, code := none }
def k1c1 : Code := { maxStack := 10, maxLocals := 9, code := code, exceptionTable := #[], attributes := #[] }
def k1m1 : Method := { name := "law", desc := "(JJI)Z", sig := { parameters := [.long, .long, .int], returnType := some .boolean }, accessFlags := 9, code := some k1c1 }
/-- org/ccsds/moims/mo/mal/structures/TimeEqualsPinLaw -/
def k1 : Class := { plain "org/ccsds/moims/mo/mal/structures/TimeEqualsPinLaw" (some 0) with
  accessFlags := 49
  interfaces := #[]
  cf := some (fileOf pool1 27 #[] #[{ accessFlags := 1, nameIndex := 5, descriptorIndex := 6, attributes := #[] }, { accessFlags := 9, nameIndex := 31, descriptorIndex := 32, attributes := #[] }] 49 2 #[] #[])
  fields := #[]
  methods := #[k1m0, k1m1]
  instanceTypes := #[]
  staticTypes := #[]
  resolved := Array.replicate 36 none
  statics := none }

def pool2 : Array CpInfo := pool [(1, .class_ 2), (0, u "org/ccsds/moims/mo/mal/structures/Element"), (0, .class_ 4), (0, u "java/lang/Object")] 20

/-- org/ccsds/moims/mo/mal/structures/Element -/
def k2 : Class := { plain "org/ccsds/moims/mo/mal/structures/Element" (some 0) with
  accessFlags := 1537
  interfaces := #[]
  cf := some (fileOf pool2 1 #[] #[] 1537 3 #[] #[])
  fields := #[]
  methods := #[]
  instanceTypes := #[]
  staticTypes := #[]
  resolved := Array.replicate 25 none
  statics := none }

def pool3 : Array CpInfo := pool [(8, .class_ 10), (1, u "org/ccsds/moims/mo/mal/structures/Attribute"), (0, u "BLOB_TYPE_SHORT_FORM"), (0, u "Ljava/lang/Integer;"), (2, u "BOOLEAN_TYPE_SHORT_FORM"), (2, u "DURATION_TYPE_SHORT_FORM"), (2, u "FLOAT_TYPE_SHORT_FORM"), (2, u "DOUBLE_TYPE_SHORT_FORM"), (2, u "IDENTIFIER_TYPE_SHORT_FORM"), (2, u "OCTET_TYPE_SHORT_FORM"), (2, u "UOCTET_TYPE_SHORT_FORM"), (2, u "SHORT_TYPE_SHORT_FORM"), (2, u "USHORT_TYPE_SHORT_FORM"), (2, u "INTEGER_TYPE_SHORT_FORM"), (2, u "UINTEGER_TYPE_SHORT_FORM"), (2, u "LONG_TYPE_SHORT_FORM"), (2, u "ULONG_TYPE_SHORT_FORM"), (2, u "STRING_TYPE_SHORT_FORM"), (2, u "TIME_TYPE_SHORT_FORM"), (2, u "FINETIME_TYPE_SHORT_FORM"), (2, u "URI_TYPE_SHORT_FORM"), (12, u "BLOB_SHORT_FORM"), (0, u "Ljava/lang/Long;"), (2, u "BOOLEAN_SHORT_FORM"), (2, u "DURATION_SHORT_FORM"), (2, u "FLOAT_SHORT_FORM"), (2, u "DOUBLE_SHORT_FORM"), (2, u "IDENTIFIER_SHORT_FORM"), (2, u "OCTET_SHORT_FORM"), (2, u "UOCTET_SHORT_FORM"), (2, u "SHORT_SHORT_FORM"), (2, u "USHORT_SHORT_FORM"), (2, u "INTEGER_SHORT_FORM"), (2, u "UINTEGER_SHORT_FORM"), (2, u "LONG_SHORT_FORM"), (2, u "ULONG_SHORT_FORM"), (2, u "STRING_SHORT_FORM"), (2, u "TIME_SHORT_FORM"), (2, u "FINETIME_SHORT_FORM"), (2, u "URI_SHORT_FORM"), (0, .class_ 130), (0, u "java/lang/Object"), (0, .class_ 132), (0, u "org/ccsds/moims/mo/mal/structures/Element")] 6

/-- org/ccsds/moims/mo/mal/structures/Attribute -/
def k3 : Class := { plain "org/ccsds/moims/mo/mal/structures/Attribute" (some 0) with
  accessFlags := 1537
  interfaces := #[2]
  cf := some (fileOf pool3 8 #[] #[] 1537 129 #[131] #[{ accessFlags := 25, nameIndex := 11, descriptorIndex := 12, attributes := #[] }, { accessFlags := 25, nameIndex := 15, descriptorIndex := 12, attributes := #[] }, { accessFlags := 25, nameIndex := 18, descriptorIndex := 12, attributes := #[] }, { accessFlags := 25, nameIndex := 21, descriptorIndex := 12, attributes := #[] }, { accessFlags := 25, nameIndex := 24, descriptorIndex := 12, attributes := #[] }, { accessFlags := 25, nameIndex := 27, descriptorIndex := 12, attributes := #[] }, { accessFlags := 25, nameIndex := 30, descriptorIndex := 12, attributes := #[] }, { accessFlags := 25, nameIndex := 33, descriptorIndex := 12, attributes := #[] }, { accessFlags := 25, nameIndex := 36, descriptorIndex := 12, attributes := #[] }, { accessFlags := 25, nameIndex := 39, descriptorIndex := 12, attributes := #[] }, { accessFlags := 25, nameIndex := 42, descriptorIndex := 12, attributes := #[] }, { accessFlags := 25, nameIndex := 45, descriptorIndex := 12, attributes := #[] }, { accessFlags := 25, nameIndex := 48, descriptorIndex := 12, attributes := #[] }, { accessFlags := 25, nameIndex := 51, descriptorIndex := 12, attributes := #[] }, { accessFlags := 25, nameIndex := 54, descriptorIndex := 12, attributes := #[] }, { accessFlags := 25, nameIndex := 57, descriptorIndex := 12, attributes := #[] }, { accessFlags := 25, nameIndex := 60, descriptorIndex := 12, attributes := #[] }, { accessFlags := 25, nameIndex := 63, descriptorIndex := 12, attributes := #[] }, { accessFlags := 25, nameIndex := 76, descriptorIndex := 77, attributes := #[] }, { accessFlags := 25, nameIndex := 80, descriptorIndex := 77, attributes := #[] }, { accessFlags := 25, nameIndex := 83, descriptorIndex := 77, attributes := #[] }, { accessFlags := 25, nameIndex := 86, descriptorIndex := 77, attributes := #[] }, { accessFlags := 25, nameIndex := 89, descriptorIndex := 77, attributes := #[] }, { accessFlags := 25, nameIndex := 92, descriptorIndex := 77, attributes := #[] }, { accessFlags := 25, nameIndex := 95, descriptorIndex := 77, attributes := #[] }, { accessFlags := 25, nameIndex := 98, descriptorIndex := 77, attributes := #[] }, { accessFlags := 25, nameIndex := 101, descriptorIndex := 77, attributes := #[] }, { accessFlags := 25, nameIndex := 104, descriptorIndex := 77, attributes := #[] }, { accessFlags := 25, nameIndex := 107, descriptorIndex := 77, attributes := #[] }, { accessFlags := 25, nameIndex := 110, descriptorIndex := 77, attributes := #[] }, { accessFlags := 25, nameIndex := 113, descriptorIndex := 77, attributes := #[] }, { accessFlags := 25, nameIndex := 116, descriptorIndex := 77, attributes := #[] }, { accessFlags := 25, nameIndex := 119, descriptorIndex := 77, attributes := #[] }, { accessFlags := 25, nameIndex := 122, descriptorIndex := 77, attributes := #[] }, { accessFlags := 25, nameIndex := 125, descriptorIndex := 77, attributes := #[] }, { accessFlags := 25, nameIndex := 128, descriptorIndex := 77, attributes := #[] }])
  fields := #[{ name := "BLOB_TYPE_SHORT_FORM", type := (.object "java/lang/Integer"), accessFlags := 25, slot := 0, constantValue := 0 }, { name := "BOOLEAN_TYPE_SHORT_FORM", type := (.object "java/lang/Integer"), accessFlags := 25, slot := 1, constantValue := 0 }, { name := "DURATION_TYPE_SHORT_FORM", type := (.object "java/lang/Integer"), accessFlags := 25, slot := 2, constantValue := 0 }, { name := "FLOAT_TYPE_SHORT_FORM", type := (.object "java/lang/Integer"), accessFlags := 25, slot := 3, constantValue := 0 }, { name := "DOUBLE_TYPE_SHORT_FORM", type := (.object "java/lang/Integer"), accessFlags := 25, slot := 4, constantValue := 0 }, { name := "IDENTIFIER_TYPE_SHORT_FORM", type := (.object "java/lang/Integer"), accessFlags := 25, slot := 5, constantValue := 0 }, { name := "OCTET_TYPE_SHORT_FORM", type := (.object "java/lang/Integer"), accessFlags := 25, slot := 6, constantValue := 0 }, { name := "UOCTET_TYPE_SHORT_FORM", type := (.object "java/lang/Integer"), accessFlags := 25, slot := 7, constantValue := 0 }, { name := "SHORT_TYPE_SHORT_FORM", type := (.object "java/lang/Integer"), accessFlags := 25, slot := 8, constantValue := 0 }, { name := "USHORT_TYPE_SHORT_FORM", type := (.object "java/lang/Integer"), accessFlags := 25, slot := 9, constantValue := 0 }, { name := "INTEGER_TYPE_SHORT_FORM", type := (.object "java/lang/Integer"), accessFlags := 25, slot := 10, constantValue := 0 }, { name := "UINTEGER_TYPE_SHORT_FORM", type := (.object "java/lang/Integer"), accessFlags := 25, slot := 11, constantValue := 0 }, { name := "LONG_TYPE_SHORT_FORM", type := (.object "java/lang/Integer"), accessFlags := 25, slot := 12, constantValue := 0 }, { name := "ULONG_TYPE_SHORT_FORM", type := (.object "java/lang/Integer"), accessFlags := 25, slot := 13, constantValue := 0 }, { name := "STRING_TYPE_SHORT_FORM", type := (.object "java/lang/Integer"), accessFlags := 25, slot := 14, constantValue := 0 }, { name := "TIME_TYPE_SHORT_FORM", type := (.object "java/lang/Integer"), accessFlags := 25, slot := 15, constantValue := 0 }, { name := "FINETIME_TYPE_SHORT_FORM", type := (.object "java/lang/Integer"), accessFlags := 25, slot := 16, constantValue := 0 }, { name := "URI_TYPE_SHORT_FORM", type := (.object "java/lang/Integer"), accessFlags := 25, slot := 17, constantValue := 0 }, { name := "BLOB_SHORT_FORM", type := (.object "java/lang/Long"), accessFlags := 25, slot := 18, constantValue := 0 }, { name := "BOOLEAN_SHORT_FORM", type := (.object "java/lang/Long"), accessFlags := 25, slot := 19, constantValue := 0 }, { name := "DURATION_SHORT_FORM", type := (.object "java/lang/Long"), accessFlags := 25, slot := 20, constantValue := 0 }, { name := "FLOAT_SHORT_FORM", type := (.object "java/lang/Long"), accessFlags := 25, slot := 21, constantValue := 0 }, { name := "DOUBLE_SHORT_FORM", type := (.object "java/lang/Long"), accessFlags := 25, slot := 22, constantValue := 0 }, { name := "IDENTIFIER_SHORT_FORM", type := (.object "java/lang/Long"), accessFlags := 25, slot := 23, constantValue := 0 }, { name := "OCTET_SHORT_FORM", type := (.object "java/lang/Long"), accessFlags := 25, slot := 24, constantValue := 0 }, { name := "UOCTET_SHORT_FORM", type := (.object "java/lang/Long"), accessFlags := 25, slot := 25, constantValue := 0 }, { name := "SHORT_SHORT_FORM", type := (.object "java/lang/Long"), accessFlags := 25, slot := 26, constantValue := 0 }, { name := "USHORT_SHORT_FORM", type := (.object "java/lang/Long"), accessFlags := 25, slot := 27, constantValue := 0 }, { name := "INTEGER_SHORT_FORM", type := (.object "java/lang/Long"), accessFlags := 25, slot := 28, constantValue := 0 }, { name := "UINTEGER_SHORT_FORM", type := (.object "java/lang/Long"), accessFlags := 25, slot := 29, constantValue := 0 }, { name := "LONG_SHORT_FORM", type := (.object "java/lang/Long"), accessFlags := 25, slot := 30, constantValue := 0 }, { name := "ULONG_SHORT_FORM", type := (.object "java/lang/Long"), accessFlags := 25, slot := 31, constantValue := 0 }, { name := "STRING_SHORT_FORM", type := (.object "java/lang/Long"), accessFlags := 25, slot := 32, constantValue := 0 }, { name := "TIME_SHORT_FORM", type := (.object "java/lang/Long"), accessFlags := 25, slot := 33, constantValue := 0 }, { name := "FINETIME_SHORT_FORM", type := (.object "java/lang/Long"), accessFlags := 25, slot := 34, constantValue := 0 }, { name := "URI_SHORT_FORM", type := (.object "java/lang/Long"), accessFlags := 25, slot := 35, constantValue := 0 }]
  methods := #[]
  instanceTypes := #[]
  staticTypes := #[(.object "java/lang/Integer"), (.object "java/lang/Integer"), (.object "java/lang/Integer"), (.object "java/lang/Integer"), (.object "java/lang/Integer"), (.object "java/lang/Integer"), (.object "java/lang/Integer"), (.object "java/lang/Integer"), (.object "java/lang/Integer"), (.object "java/lang/Integer"), (.object "java/lang/Integer"), (.object "java/lang/Integer"), (.object "java/lang/Integer"), (.object "java/lang/Integer"), (.object "java/lang/Integer"), (.object "java/lang/Integer"), (.object "java/lang/Integer"), (.object "java/lang/Integer"), (.object "java/lang/Long"), (.object "java/lang/Long"), (.object "java/lang/Long"), (.object "java/lang/Long"), (.object "java/lang/Long"), (.object "java/lang/Long"), (.object "java/lang/Long"), (.object "java/lang/Long"), (.object "java/lang/Long"), (.object "java/lang/Long"), (.object "java/lang/Long"), (.object "java/lang/Long"), (.object "java/lang/Long"), (.object "java/lang/Long"), (.object "java/lang/Long"), (.object "java/lang/Long"), (.object "java/lang/Long"), (.object "java/lang/Long")]
  resolved := Array.replicate 139 none
  statics := none }

def pool4 : Array CpInfo := pool [(1, .methodref 2 3), (0, .class_ 4), (0, .nameAndType 5 6), (0, u "java/lang/Object"), (0, u "<init>"), (0, u "()V"), (0, .fieldref 8 9), (0, .class_ 10), (0, .nameAndType 11 12), (0, u "org/ccsds/moims/mo/mal/structures/Time"), (0, u "value"), (0, u "J"), (1, .class_ 16), (1, u "org/ccsds/moims/mo/mal/structures/Attribute"), (21, u "(J)V"), (44, u "equals"), (0, u "(Ljava/lang/Object;)Z")] 5

def k4c0 : Code := { maxStack := 3, maxLocals := 3, code := prog_224_method_1_code, exceptionTable := #[], attributes := #[] }
def k4m0 : Method := { name := "<init>", desc := "(J)V", sig := { parameters := [.long], returnType := none }, accessFlags := 1, code := some k4c0 }
def k4c1 : Code := { maxStack := 4, maxLocals := 2, code := prog_224_method_11_code, exceptionTable := #[], attributes := #[] }
def k4m1 : Method := { name := "equals", desc := "(Ljava/lang/Object;)Z", sig := { parameters := [(.object "java/lang/Object")], returnType := some .boolean }, accessFlags := 1, code := some k4c1 }
/-- org/ccsds/moims/mo/mal/structures/Time -/
def k4 : Class := { plain "org/ccsds/moims/mo/mal/structures/Time" (some 0) with
  accessFlags := 49
  interfaces := #[3]
  cf := some (fileOf pool4 8 #[] #[{ accessFlags := 1, nameIndex := 5, descriptorIndex := 38, attributes := #[] }, { accessFlags := 1, nameIndex := 83, descriptorIndex := 84, attributes := #[] }] 49 2 #[14] #[{ accessFlags := 18, nameIndex := 11, descriptorIndex := 12, attributes := #[] }])
  fields := #[{ name := "value", type := .long, accessFlags := 18, slot := 0, constantValue := 0 }]
  methods := #[k4m0, k4m1]
  instanceTypes := #[.long]
  staticTypes := #[]
  resolved := Array.replicate 90 none
  statics := none }

def pool5 : Array CpInfo := pool [(1, .methodref 2 3), (0, .class_ 4), (0, .nameAndType 5 6), (0, u "java/lang/Object"), (0, u "<init>"), (0, u "()V"), (0, .fieldref 8 9), (0, .class_ 10), (0, .nameAndType 11 12), (0, u "org/ccsds/moims/mo/mal/structures/FineTime"), (0, u "value"), (0, u "J"), (1, .class_ 16), (1, u "org/ccsds/moims/mo/mal/structures/Attribute"), (21, u "(J)V")] 51

def k5c0 : Code := { maxStack := 3, maxLocals := 3, code := prog_196_method_1_code, exceptionTable := #[], attributes := #[] }
def k5m0 : Method := { name := "<init>", desc := "(J)V", sig := { parameters := [.long], returnType := none }, accessFlags := 1, code := some k5c0 }
/-- org/ccsds/moims/mo/mal/structures/FineTime -/
def k5 : Class := { plain "org/ccsds/moims/mo/mal/structures/FineTime" (some 0) with
  accessFlags := 49
  interfaces := #[3]
  cf := some (fileOf pool5 8 #[] #[{ accessFlags := 1, nameIndex := 5, descriptorIndex := 38, attributes := #[] }] 49 2 #[14] #[{ accessFlags := 18, nameIndex := 11, descriptorIndex := 12, attributes := #[] }])
  fields := #[{ name := "value", type := .long, accessFlags := 18, slot := 0, constantValue := 0 }]
  methods := #[k5m0]
  instanceTypes := #[.long]
  staticTypes := #[]
  resolved := Array.replicate 90 none
  statics := none }

def pool6 : Array CpInfo := pool [(1, .class_ 2), (0, u "java/io/Serializable"), (0, .class_ 4), (0, u "java/lang/Object")] 2

/-- java/io/Serializable -/
def k6 : Class := { plain "java/io/Serializable" (some 0) with
  accessFlags := 1537
  interfaces := #[]
  cf := some (fileOf pool6 1 #[] #[] 1537 3 #[] #[])
  fields := #[]
  methods := #[]
  instanceTypes := #[]
  staticTypes := #[]
  resolved := Array.replicate 7 none
  statics := none }

def pool7 : Array CpInfo := pool [(1, .methodref 2 3), (0, .class_ 4), (0, .nameAndType 5 6), (0, u "java/lang/Object"), (0, u "<init>"), (0, u "()V"), (1, .class_ 10), (1, u "java/lang/Number"), (2, .class_ 14), (0, u "java/io/Serializable"), (0, u "serialVersionUID"), (0, u "J")] 20

def k7c0 : Code := { maxStack := 1, maxLocals := 1, code := jdk_18_method_1_code, exceptionTable := #[], attributes := #[] }
def k7m0 : Method := { name := "<init>", desc := "()V", sig := { parameters := [], returnType := none }, accessFlags := 1, code := some k7c0 }
/-- java/lang/Number -/
def k7 : Class := { plain "java/lang/Number" (some 0) with
  accessFlags := 1057
  interfaces := #[6]
  cf := some (fileOf pool7 8 #[] #[{ accessFlags := 1, nameIndex := 5, descriptorIndex := 6, attributes := #[] }] 1057 2 #[13] #[{ accessFlags := 26, nameIndex := 15, descriptorIndex := 16, attributes := #[] }])
  fields := #[{ name := "serialVersionUID", type := .long, accessFlags := 26, slot := 0, constantValue := 0 }]
  methods := #[k7m0]
  instanceTypes := #[]
  staticTypes := #[.long]
  resolved := Array.replicate 37 none
  statics := none }

def pool8 : Array CpInfo := pool [(1, .class_ 2), (0, u "java/lang/Comparable"), (0, .class_ 4), (0, u "java/lang/Object")] 7

/-- java/lang/Comparable -/
def k8 : Class := { plain "java/lang/Comparable" (some 0) with
  accessFlags := 1537
  interfaces := #[]
  cf := some (fileOf pool8 1 #[] #[] 1537 3 #[] #[])
  fields := #[]
  methods := #[]
  instanceTypes := #[]
  staticTypes := #[]
  resolved := Array.replicate 12 none
  statics := none }

def pool9 : Array CpInfo := pool [(1, .class_ 2), (0, u "java/lang/constant/Constable"), (0, .class_ 4), (0, u "java/lang/Object")] 6

/-- java/lang/constant/Constable -/
def k9 : Class := { plain "java/lang/constant/Constable" (some 0) with
  accessFlags := 1537
  interfaces := #[]
  cf := some (fileOf pool9 1 #[] #[] 1537 3 #[] #[])
  fields := #[]
  methods := #[]
  instanceTypes := #[]
  staticTypes := #[]
  resolved := Array.replicate 11 none
  statics := none }

def pool10 : Array CpInfo := pool [(1, .class_ 2), (0, u "java/lang/constant/ConstantDesc"), (0, .class_ 4), (0, u "java/lang/Object")] 32

/-- java/lang/constant/ConstantDesc -/
def k10 : Class := { plain "java/lang/constant/ConstantDesc" (some 0) with
  accessFlags := 1537
  interfaces := #[]
  cf := some (fileOf pool10 1 #[] #[] 1537 3 #[] #[])
  fields := #[]
  methods := #[]
  instanceTypes := #[]
  staticTypes := #[]
  resolved := Array.replicate 37 none
  statics := none }

def pool11 : Array CpInfo := pool [(1, .class_ 2), (0, u "java/lang/Long"), (55, .nameAndType 59 60), (0, u "<init>"), (0, u "()V"), (24, u "valueOf"), (143, u "(J)Ljava/lang/Long;"), (0, .long 18446744073709551488), (1, .long 127), (1, .fieldref 235 236), (0, .class_ 237), (0, .nameAndType 238 239), (0, u "java/lang/Long$LongCache"), (0, u "cache"), (0, u "[Ljava/lang/Long;"), (0, .methodref 1 241), (0, .nameAndType 59 242), (0, u "(J)V"), (27, .methodref 271 58), (0, .class_ 272), (0, u "java/lang/Number"), (0, .fieldref 1 274), (0, .nameAndType 275 276), (0, u "value"), (0, u "J"), (84, u "TYPE"), (0, u "Ljava/lang/Class;"), (0, .class_ 364), (0, u "java/lang/Comparable"), (0, .class_ 366), (0, u "java/lang/constant/Constable"), (0, .class_ 368), (0, u "java/lang/constant/ConstantDesc"), (0, u "MIN_VALUE"), (1, u "MAX_VALUE"), (4, u "SIZE"), (0, u "I"), (1, u "BYTES"), (1, u "serialVersionUID")] 142

def k11c0 : Code := { maxStack := 4, maxLocals := 3, code := jdk_35_method_24_code, exceptionTable := #[], attributes := #[] }
def k11m0 : Method := { name := "valueOf", desc := "(J)Ljava/lang/Long;", sig := { parameters := [.long], returnType := some (.object "java/lang/Long") }, accessFlags := 9, code := some k11c0 }
def k11c1 : Code := { maxStack := 3, maxLocals := 3, code := jdk_35_method_26_code, exceptionTable := #[], attributes := #[] }
def k11m1 : Method := { name := "<init>", desc := "(J)V", sig := { parameters := [.long], returnType := none }, accessFlags := 1, code := some k11c1 }
/-- java/lang/Long -/
def k11 : Class := { plain "java/lang/Long" (some 7) with
  accessFlags := 49
  interfaces := #[8, 9, 10]
  cf := some (fileOf pool11 1 #[.nestMembers #[235]] #[{ accessFlags := 9, nameIndex := 85, descriptorIndex := 229, attributes := #[] }, { accessFlags := 1, nameIndex := 59, descriptorIndex := 242, attributes := #[] }] 49 271 #[363, 365, 367] #[{ accessFlags := 25, nameIndex := 369, descriptorIndex := 276, attributes := #[] }, { accessFlags := 25, nameIndex := 371, descriptorIndex := 276, attributes := #[] }, { accessFlags := 25, nameIndex := 361, descriptorIndex := 362, attributes := #[] }, { accessFlags := 18, nameIndex := 275, descriptorIndex := 276, attributes := #[] }, { accessFlags := 25, nameIndex := 376, descriptorIndex := 377, attributes := #[] }, { accessFlags := 25, nameIndex := 379, descriptorIndex := 377, attributes := #[] }, { accessFlags := 26, nameIndex := 381, descriptorIndex := 276, attributes := #[] }])
  fields := #[{ name := "MIN_VALUE", type := .long, accessFlags := 25, slot := 0, constantValue := 0 }, { name := "MAX_VALUE", type := .long, accessFlags := 25, slot := 1, constantValue := 0 }, { name := "TYPE", type := (.object "java/lang/Class"), accessFlags := 25, slot := 2, constantValue := 0 }, { name := "value", type := .long, accessFlags := 18, slot := 0, constantValue := 0 }, { name := "SIZE", type := .int, accessFlags := 25, slot := 3, constantValue := 0 }, { name := "BYTES", type := .int, accessFlags := 25, slot := 4, constantValue := 0 }, { name := "serialVersionUID", type := .long, accessFlags := 26, slot := 5, constantValue := 0 }]
  methods := #[k11m0, k11m1]
  instanceTypes := #[.long]
  staticTypes := #[.long, .long, (.object "java/lang/Class"), .int, .int, .long]
  resolved := Array.replicate 524 none
  statics := none }

def pool12 : Array CpInfo := pool [(2, .class_ 4), (1, u "java/lang/Object"), (0, u "<init>"), (0, u "()V"), (0, .class_ 8), (0, u "java/lang/Long"), (7, .class_ 18), (1, u "java/lang/Long$LongCache"), (0, u "$assertionsDisabled"), (0, u "Z"), (8, u "archivedCache"), (0, u "[Ljava/lang/Long;"), (7, u "cache")] 24

def k12m0 : Method := { name := "<init>", desc := "()V", sig := { parameters := [], returnType := none }, accessFlags := 2, code := none }
/-- java/lang/Long$LongCache -/
def k12 : Class := { plain "java/lang/Long$LongCache" (some 0) with
  accessFlags := 48
  interfaces := #[]
  cf := some (fileOf pool12 16 #[.nestHost 7] #[{ accessFlags := 2, nameIndex := 5, descriptorIndex := 6, attributes := #[] }] 48 2 #[] #[{ accessFlags := 24, nameIndex := 38, descriptorIndex := 30, attributes := #[] }, { accessFlags := 8, nameIndex := 29, descriptorIndex := 30, attributes := #[] }, { accessFlags := 4120, nameIndex := 19, descriptorIndex := 20, attributes := #[] }])
  fields := #[{ name := "cache", type := (.array (.object "java/lang/Long")), accessFlags := 24, slot := 0, constantValue := 0 }, { name := "archivedCache", type := (.array (.object "java/lang/Long")), accessFlags := 8, slot := 1, constantValue := 0 }, { name := "$assertionsDisabled", type := .boolean, accessFlags := 4120, slot := 2, constantValue := 0 }]
  methods := #[k12m0]
  instanceTypes := #[]
  staticTypes := #[(.array (.object "java/lang/Long")), (.array (.object "java/lang/Long")), .boolean]
  resolved := Array.replicate 63 none
  statics := some 0 }

def pool13 : Array CpInfo := pool [(1, u "java/lang/Cloneable"), (0, .class_ 1), (0, u "java/lang/Object"), (0, .class_ 3)] 3

/-- java/lang/Cloneable -/
def k13 : Class := { plain "java/lang/Cloneable" (some 0) with
  accessFlags := 1537
  interfaces := #[]
  cf := some (fileOf pool13 2 #[] #[] 1537 4 #[] #[])
  fields := #[]
  methods := #[]
  instanceTypes := #[]
  staticTypes := #[]
  resolved := Array.replicate 8 none
  statics := none }

/-- the primitive byte -/
def k14 : Class := { plain "byte" none with kind := .primitive 'B', accessFlags := 0x411 }
/-- [B -/
def k15 : Class := { plain "[B" (some 0) with kind := .array 14 .byte, interfaces := #[13, 6], accessFlags := 1041 }

/-- the primitive int -/
def k16 : Class := { plain "int" none with kind := .primitive 'I', accessFlags := 0x411 }
/-- [I -/
def k17 : Class := { plain "[I" (some 0) with kind := .array 16 .int, interfaces := #[13, 6], accessFlags := 1041 }

/-- [Ljava/lang/Long; -/
def k18 : Class := { plain "[Ljava/lang/Long;" (some 0) with kind := .array 11 (.object "java/lang/Long"), interfaces := #[13, 6], accessFlags := 1041 }

def heap : Heap := #[{ cls := 12, slots := #[.ref 1, .null, .int 0], vm := .statics 12 },
  { cls := 18, slots := #[.ref 2, .ref 3, .ref 4, .ref 5, .ref 6, .ref 7, .ref 8, .ref 9, .ref 10, .ref 11, .ref 12, .ref 13, .ref 14, .ref 15, .ref 16, .ref 17, .ref 18, .ref 19, .ref 20, .ref 21, .ref 22, .ref 23, .ref 24, .ref 25, .ref 26, .ref 27, .ref 28, .ref 29, .ref 30, .ref 31, .ref 32, .ref 33, .ref 34, .ref 35, .ref 36, .ref 37, .ref 38, .ref 39, .ref 40, .ref 41, .ref 42, .ref 43, .ref 44, .ref 45, .ref 46, .ref 47, .ref 48, .ref 49, .ref 50, .ref 51, .ref 52, .ref 53, .ref 54, .ref 55, .ref 56, .ref 57, .ref 58, .ref 59, .ref 60, .ref 61, .ref 62, .ref 63, .ref 64, .ref 65, .ref 66, .ref 67, .ref 68, .ref 69, .ref 70, .ref 71, .ref 72, .ref 73, .ref 74, .ref 75, .ref 76, .ref 77, .ref 78, .ref 79, .ref 80, .ref 81, .ref 82, .ref 83, .ref 84, .ref 85, .ref 86, .ref 87, .ref 88, .ref 89, .ref 90, .ref 91, .ref 92, .ref 93, .ref 94, .ref 95, .ref 96, .ref 97, .ref 98, .ref 99, .ref 100, .ref 101, .ref 102, .ref 103, .ref 104, .ref 105, .ref 106, .ref 107, .ref 108, .ref 109, .ref 110, .ref 111, .ref 112, .ref 113, .ref 114, .ref 115, .ref 116, .ref 117, .ref 118, .ref 119, .ref 120, .ref 121, .ref 122, .ref 123, .ref 124, .ref 125, .ref 126, .ref 127, .ref 128, .ref 129, .ref 130, .ref 131, .ref 132, .ref 133, .ref 134, .ref 135, .ref 136, .ref 137, .ref 138, .ref 139, .ref 140, .ref 141, .ref 142, .ref 143, .ref 144, .ref 145, .ref 146, .ref 147, .ref 148, .ref 149, .ref 150, .ref 151, .ref 152, .ref 153, .ref 154, .ref 155, .ref 156, .ref 157, .ref 158, .ref 159, .ref 160, .ref 161, .ref 162, .ref 163, .ref 164, .ref 165, .ref 166, .ref 167, .ref 168, .ref 169, .ref 170, .ref 171, .ref 172, .ref 173, .ref 174, .ref 175, .ref 176, .ref 177, .ref 178, .ref 179, .ref 180, .ref 181, .ref 182, .ref 183, .ref 184, .ref 185, .ref 186, .ref 187, .ref 188, .ref 189, .ref 190, .ref 191, .ref 192, .ref 193, .ref 194, .ref 195, .ref 196, .ref 197, .ref 198, .ref 199, .ref 200, .ref 201, .ref 202, .ref 203, .ref 204, .ref 205, .ref 206, .ref 207, .ref 208, .ref 209, .ref 210, .ref 211, .ref 212, .ref 213, .ref 214, .ref 215, .ref 216, .ref 217, .ref 218, .ref 219, .ref 220, .ref 221, .ref 222, .ref 223, .ref 224, .ref 225, .ref 226, .ref 227, .ref 228, .ref 229, .ref 230, .ref 231, .ref 232, .ref 233, .ref 234, .ref 235, .ref 236, .ref 237, .ref 238, .ref 239, .ref 240, .ref 241, .ref 242, .ref 243, .ref 244, .ref 245, .ref 246, .ref 247, .ref 248, .ref 249, .ref 250, .ref 251, .ref 252, .ref 253, .ref 254, .ref 255, .ref 256, .ref 257], vm := .none },
  { cls := 11, slots := #[.long (-128)], vm := .none },
  { cls := 11, slots := #[.long (-127)], vm := .none },
  { cls := 11, slots := #[.long (-126)], vm := .none },
  { cls := 11, slots := #[.long (-125)], vm := .none },
  { cls := 11, slots := #[.long (-124)], vm := .none },
  { cls := 11, slots := #[.long (-123)], vm := .none },
  { cls := 11, slots := #[.long (-122)], vm := .none },
  { cls := 11, slots := #[.long (-121)], vm := .none },
  { cls := 11, slots := #[.long (-120)], vm := .none },
  { cls := 11, slots := #[.long (-119)], vm := .none },
  { cls := 11, slots := #[.long (-118)], vm := .none },
  { cls := 11, slots := #[.long (-117)], vm := .none },
  { cls := 11, slots := #[.long (-116)], vm := .none },
  { cls := 11, slots := #[.long (-115)], vm := .none },
  { cls := 11, slots := #[.long (-114)], vm := .none },
  { cls := 11, slots := #[.long (-113)], vm := .none },
  { cls := 11, slots := #[.long (-112)], vm := .none },
  { cls := 11, slots := #[.long (-111)], vm := .none },
  { cls := 11, slots := #[.long (-110)], vm := .none },
  { cls := 11, slots := #[.long (-109)], vm := .none },
  { cls := 11, slots := #[.long (-108)], vm := .none },
  { cls := 11, slots := #[.long (-107)], vm := .none },
  { cls := 11, slots := #[.long (-106)], vm := .none },
  { cls := 11, slots := #[.long (-105)], vm := .none },
  { cls := 11, slots := #[.long (-104)], vm := .none },
  { cls := 11, slots := #[.long (-103)], vm := .none },
  { cls := 11, slots := #[.long (-102)], vm := .none },
  { cls := 11, slots := #[.long (-101)], vm := .none },
  { cls := 11, slots := #[.long (-100)], vm := .none },
  { cls := 11, slots := #[.long (-99)], vm := .none },
  { cls := 11, slots := #[.long (-98)], vm := .none },
  { cls := 11, slots := #[.long (-97)], vm := .none },
  { cls := 11, slots := #[.long (-96)], vm := .none },
  { cls := 11, slots := #[.long (-95)], vm := .none },
  { cls := 11, slots := #[.long (-94)], vm := .none },
  { cls := 11, slots := #[.long (-93)], vm := .none },
  { cls := 11, slots := #[.long (-92)], vm := .none },
  { cls := 11, slots := #[.long (-91)], vm := .none },
  { cls := 11, slots := #[.long (-90)], vm := .none },
  { cls := 11, slots := #[.long (-89)], vm := .none },
  { cls := 11, slots := #[.long (-88)], vm := .none },
  { cls := 11, slots := #[.long (-87)], vm := .none },
  { cls := 11, slots := #[.long (-86)], vm := .none },
  { cls := 11, slots := #[.long (-85)], vm := .none },
  { cls := 11, slots := #[.long (-84)], vm := .none },
  { cls := 11, slots := #[.long (-83)], vm := .none },
  { cls := 11, slots := #[.long (-82)], vm := .none },
  { cls := 11, slots := #[.long (-81)], vm := .none },
  { cls := 11, slots := #[.long (-80)], vm := .none },
  { cls := 11, slots := #[.long (-79)], vm := .none },
  { cls := 11, slots := #[.long (-78)], vm := .none },
  { cls := 11, slots := #[.long (-77)], vm := .none },
  { cls := 11, slots := #[.long (-76)], vm := .none },
  { cls := 11, slots := #[.long (-75)], vm := .none },
  { cls := 11, slots := #[.long (-74)], vm := .none },
  { cls := 11, slots := #[.long (-73)], vm := .none },
  { cls := 11, slots := #[.long (-72)], vm := .none },
  { cls := 11, slots := #[.long (-71)], vm := .none },
  { cls := 11, slots := #[.long (-70)], vm := .none },
  { cls := 11, slots := #[.long (-69)], vm := .none },
  { cls := 11, slots := #[.long (-68)], vm := .none },
  { cls := 11, slots := #[.long (-67)], vm := .none },
  { cls := 11, slots := #[.long (-66)], vm := .none },
  { cls := 11, slots := #[.long (-65)], vm := .none },
  { cls := 11, slots := #[.long (-64)], vm := .none },
  { cls := 11, slots := #[.long (-63)], vm := .none },
  { cls := 11, slots := #[.long (-62)], vm := .none },
  { cls := 11, slots := #[.long (-61)], vm := .none },
  { cls := 11, slots := #[.long (-60)], vm := .none },
  { cls := 11, slots := #[.long (-59)], vm := .none },
  { cls := 11, slots := #[.long (-58)], vm := .none },
  { cls := 11, slots := #[.long (-57)], vm := .none },
  { cls := 11, slots := #[.long (-56)], vm := .none },
  { cls := 11, slots := #[.long (-55)], vm := .none },
  { cls := 11, slots := #[.long (-54)], vm := .none },
  { cls := 11, slots := #[.long (-53)], vm := .none },
  { cls := 11, slots := #[.long (-52)], vm := .none },
  { cls := 11, slots := #[.long (-51)], vm := .none },
  { cls := 11, slots := #[.long (-50)], vm := .none },
  { cls := 11, slots := #[.long (-49)], vm := .none },
  { cls := 11, slots := #[.long (-48)], vm := .none },
  { cls := 11, slots := #[.long (-47)], vm := .none },
  { cls := 11, slots := #[.long (-46)], vm := .none },
  { cls := 11, slots := #[.long (-45)], vm := .none },
  { cls := 11, slots := #[.long (-44)], vm := .none },
  { cls := 11, slots := #[.long (-43)], vm := .none },
  { cls := 11, slots := #[.long (-42)], vm := .none },
  { cls := 11, slots := #[.long (-41)], vm := .none },
  { cls := 11, slots := #[.long (-40)], vm := .none },
  { cls := 11, slots := #[.long (-39)], vm := .none },
  { cls := 11, slots := #[.long (-38)], vm := .none },
  { cls := 11, slots := #[.long (-37)], vm := .none },
  { cls := 11, slots := #[.long (-36)], vm := .none },
  { cls := 11, slots := #[.long (-35)], vm := .none },
  { cls := 11, slots := #[.long (-34)], vm := .none },
  { cls := 11, slots := #[.long (-33)], vm := .none },
  { cls := 11, slots := #[.long (-32)], vm := .none },
  { cls := 11, slots := #[.long (-31)], vm := .none },
  { cls := 11, slots := #[.long (-30)], vm := .none },
  { cls := 11, slots := #[.long (-29)], vm := .none },
  { cls := 11, slots := #[.long (-28)], vm := .none },
  { cls := 11, slots := #[.long (-27)], vm := .none },
  { cls := 11, slots := #[.long (-26)], vm := .none },
  { cls := 11, slots := #[.long (-25)], vm := .none },
  { cls := 11, slots := #[.long (-24)], vm := .none },
  { cls := 11, slots := #[.long (-23)], vm := .none },
  { cls := 11, slots := #[.long (-22)], vm := .none },
  { cls := 11, slots := #[.long (-21)], vm := .none },
  { cls := 11, slots := #[.long (-20)], vm := .none },
  { cls := 11, slots := #[.long (-19)], vm := .none },
  { cls := 11, slots := #[.long (-18)], vm := .none },
  { cls := 11, slots := #[.long (-17)], vm := .none },
  { cls := 11, slots := #[.long (-16)], vm := .none },
  { cls := 11, slots := #[.long (-15)], vm := .none },
  { cls := 11, slots := #[.long (-14)], vm := .none },
  { cls := 11, slots := #[.long (-13)], vm := .none },
  { cls := 11, slots := #[.long (-12)], vm := .none },
  { cls := 11, slots := #[.long (-11)], vm := .none },
  { cls := 11, slots := #[.long (-10)], vm := .none },
  { cls := 11, slots := #[.long (-9)], vm := .none },
  { cls := 11, slots := #[.long (-8)], vm := .none },
  { cls := 11, slots := #[.long (-7)], vm := .none },
  { cls := 11, slots := #[.long (-6)], vm := .none },
  { cls := 11, slots := #[.long (-5)], vm := .none },
  { cls := 11, slots := #[.long (-4)], vm := .none },
  { cls := 11, slots := #[.long (-3)], vm := .none },
  { cls := 11, slots := #[.long (-2)], vm := .none },
  { cls := 11, slots := #[.long (-1)], vm := .none },
  { cls := 11, slots := #[.long 0], vm := .none },
  { cls := 11, slots := #[.long 1], vm := .none },
  { cls := 11, slots := #[.long 2], vm := .none },
  { cls := 11, slots := #[.long 3], vm := .none },
  { cls := 11, slots := #[.long 4], vm := .none },
  { cls := 11, slots := #[.long 5], vm := .none },
  { cls := 11, slots := #[.long 6], vm := .none },
  { cls := 11, slots := #[.long 7], vm := .none },
  { cls := 11, slots := #[.long 8], vm := .none },
  { cls := 11, slots := #[.long 9], vm := .none },
  { cls := 11, slots := #[.long 10], vm := .none },
  { cls := 11, slots := #[.long 11], vm := .none },
  { cls := 11, slots := #[.long 12], vm := .none },
  { cls := 11, slots := #[.long 13], vm := .none },
  { cls := 11, slots := #[.long 14], vm := .none },
  { cls := 11, slots := #[.long 15], vm := .none },
  { cls := 11, slots := #[.long 16], vm := .none },
  { cls := 11, slots := #[.long 17], vm := .none },
  { cls := 11, slots := #[.long 18], vm := .none },
  { cls := 11, slots := #[.long 19], vm := .none },
  { cls := 11, slots := #[.long 20], vm := .none },
  { cls := 11, slots := #[.long 21], vm := .none },
  { cls := 11, slots := #[.long 22], vm := .none },
  { cls := 11, slots := #[.long 23], vm := .none },
  { cls := 11, slots := #[.long 24], vm := .none },
  { cls := 11, slots := #[.long 25], vm := .none },
  { cls := 11, slots := #[.long 26], vm := .none },
  { cls := 11, slots := #[.long 27], vm := .none },
  { cls := 11, slots := #[.long 28], vm := .none },
  { cls := 11, slots := #[.long 29], vm := .none },
  { cls := 11, slots := #[.long 30], vm := .none },
  { cls := 11, slots := #[.long 31], vm := .none },
  { cls := 11, slots := #[.long 32], vm := .none },
  { cls := 11, slots := #[.long 33], vm := .none },
  { cls := 11, slots := #[.long 34], vm := .none },
  { cls := 11, slots := #[.long 35], vm := .none },
  { cls := 11, slots := #[.long 36], vm := .none },
  { cls := 11, slots := #[.long 37], vm := .none },
  { cls := 11, slots := #[.long 38], vm := .none },
  { cls := 11, slots := #[.long 39], vm := .none },
  { cls := 11, slots := #[.long 40], vm := .none },
  { cls := 11, slots := #[.long 41], vm := .none },
  { cls := 11, slots := #[.long 42], vm := .none },
  { cls := 11, slots := #[.long 43], vm := .none },
  { cls := 11, slots := #[.long 44], vm := .none },
  { cls := 11, slots := #[.long 45], vm := .none },
  { cls := 11, slots := #[.long 46], vm := .none },
  { cls := 11, slots := #[.long 47], vm := .none },
  { cls := 11, slots := #[.long 48], vm := .none },
  { cls := 11, slots := #[.long 49], vm := .none },
  { cls := 11, slots := #[.long 50], vm := .none },
  { cls := 11, slots := #[.long 51], vm := .none },
  { cls := 11, slots := #[.long 52], vm := .none },
  { cls := 11, slots := #[.long 53], vm := .none },
  { cls := 11, slots := #[.long 54], vm := .none },
  { cls := 11, slots := #[.long 55], vm := .none },
  { cls := 11, slots := #[.long 56], vm := .none },
  { cls := 11, slots := #[.long 57], vm := .none },
  { cls := 11, slots := #[.long 58], vm := .none },
  { cls := 11, slots := #[.long 59], vm := .none },
  { cls := 11, slots := #[.long 60], vm := .none },
  { cls := 11, slots := #[.long 61], vm := .none },
  { cls := 11, slots := #[.long 62], vm := .none },
  { cls := 11, slots := #[.long 63], vm := .none },
  { cls := 11, slots := #[.long 64], vm := .none },
  { cls := 11, slots := #[.long 65], vm := .none },
  { cls := 11, slots := #[.long 66], vm := .none },
  { cls := 11, slots := #[.long 67], vm := .none },
  { cls := 11, slots := #[.long 68], vm := .none },
  { cls := 11, slots := #[.long 69], vm := .none },
  { cls := 11, slots := #[.long 70], vm := .none },
  { cls := 11, slots := #[.long 71], vm := .none },
  { cls := 11, slots := #[.long 72], vm := .none },
  { cls := 11, slots := #[.long 73], vm := .none },
  { cls := 11, slots := #[.long 74], vm := .none },
  { cls := 11, slots := #[.long 75], vm := .none },
  { cls := 11, slots := #[.long 76], vm := .none },
  { cls := 11, slots := #[.long 77], vm := .none },
  { cls := 11, slots := #[.long 78], vm := .none },
  { cls := 11, slots := #[.long 79], vm := .none },
  { cls := 11, slots := #[.long 80], vm := .none },
  { cls := 11, slots := #[.long 81], vm := .none },
  { cls := 11, slots := #[.long 82], vm := .none },
  { cls := 11, slots := #[.long 83], vm := .none },
  { cls := 11, slots := #[.long 84], vm := .none },
  { cls := 11, slots := #[.long 85], vm := .none },
  { cls := 11, slots := #[.long 86], vm := .none },
  { cls := 11, slots := #[.long 87], vm := .none },
  { cls := 11, slots := #[.long 88], vm := .none },
  { cls := 11, slots := #[.long 89], vm := .none },
  { cls := 11, slots := #[.long 90], vm := .none },
  { cls := 11, slots := #[.long 91], vm := .none },
  { cls := 11, slots := #[.long 92], vm := .none },
  { cls := 11, slots := #[.long 93], vm := .none },
  { cls := 11, slots := #[.long 94], vm := .none },
  { cls := 11, slots := #[.long 95], vm := .none },
  { cls := 11, slots := #[.long 96], vm := .none },
  { cls := 11, slots := #[.long 97], vm := .none },
  { cls := 11, slots := #[.long 98], vm := .none },
  { cls := 11, slots := #[.long 99], vm := .none },
  { cls := 11, slots := #[.long 100], vm := .none },
  { cls := 11, slots := #[.long 101], vm := .none },
  { cls := 11, slots := #[.long 102], vm := .none },
  { cls := 11, slots := #[.long 103], vm := .none },
  { cls := 11, slots := #[.long 104], vm := .none },
  { cls := 11, slots := #[.long 105], vm := .none },
  { cls := 11, slots := #[.long 106], vm := .none },
  { cls := 11, slots := #[.long 107], vm := .none },
  { cls := 11, slots := #[.long 108], vm := .none },
  { cls := 11, slots := #[.long 109], vm := .none },
  { cls := 11, slots := #[.long 110], vm := .none },
  { cls := 11, slots := #[.long 111], vm := .none },
  { cls := 11, slots := #[.long 112], vm := .none },
  { cls := 11, slots := #[.long 113], vm := .none },
  { cls := 11, slots := #[.long 114], vm := .none },
  { cls := 11, slots := #[.long 115], vm := .none },
  { cls := 11, slots := #[.long 116], vm := .none },
  { cls := 11, slots := #[.long 117], vm := .none },
  { cls := 11, slots := #[.long 118], vm := .none },
  { cls := 11, slots := #[.long 119], vm := .none },
  { cls := 11, slots := #[.long 120], vm := .none },
  { cls := 11, slots := #[.long 121], vm := .none },
  { cls := 11, slots := #[.long 122], vm := .none },
  { cls := 11, slots := #[.long 123], vm := .none },
  { cls := 11, slots := #[.long 124], vm := .none },
  { cls := 11, slots := #[.long 125], vm := .none },
  { cls := 11, slots := #[.long 126], vm := .none },
  { cls := 11, slots := #[.long 127], vm := .none }]
def classes : Array Class := #[k0, k1, k2, k3, k4, k5, k6, k7, k8, k9, k10, k11, k12, k13, k14, k15, k16, k17, k18]
def interned : List (Array UInt16 × Addr) := []
def slotsUsed : Nat := 515
def theMethod : MethodId := ⟨1, 1⟩
def args0 : Array Value := #[.long 5, .long 3, .int 2]
def aboutOver (below : List Frame) : State where
  vm := { classes := classes, interned := interned.toArray }
  heap := heap
  slotsUsed := slotsUsed
  threads := #[{ frames := .invoking theMethod args0 :: below }]
def below0 : List Frame := [.native { method := ⟨0, 0⟩, args := #[] }]
def about1 : State := aboutOver below0
def p0 : Program := .bare "" "" ""
def e0 : Env := launch0.env 0 0 0
theorem w_frames : about1.frames = Frame.invoking theMethod args0 :: below0 := rfl
set_option maxRecDepth 65536 in
theorem w_args : argsFit about1.vm theMethod args0 = true := by decide +kernel
set_option maxRecDepth 65536 in
theorem w_heap : heapFits about1 = true := by decide +kernel
set_option maxRecDepth 65536 in
theorem w_runnable : about1.curStatus? = some .runnable := by decide +kernel
set_option maxRecDepth 65536 in
theorem w_alone : about1.alone = true := by decide +kernel
set_option maxRecDepth 65536 in
theorem w_named : about1.methodNamed? x = some theMethod := by decide +kernel
set_option maxRecDepth 65536 in
theorem w_hears : about1.hears theMethod below0 = true := by decide +kernel
set_option maxRecDepth 65536 in
theorem w_ripe : about1.ripe theMethod args0 below0 = true := by decide +kernel
theorem w_running : about1.status = .running := rfl
set_option maxRecDepth 65536 in
theorem w_room : about1.hasRoom e0.platform room_1 = true :=
  launch0.hasRoom_least _ room_1 (by decide +kernel) (by decide +kernel) (by decide +kernel) (by decide +kernel) (by decide +kernel) (by decide +kernel)
theorem allAtoms_all (ts : List Jvm.Cond) (a : Array Jvm.Value) (st : Jvm.State) : (allAtoms ts).before a st = ts.all (fun c => c.before a st) := by
  induction ts with
  | nil => rfl
  | cons c t ih =>
    show (Jvm.Cond.and c (allAtoms t)).before a st = _
    rw [Jvm.Cond.before_and, ih, List.all_cons]
def words1 : List Jvm.Cond := Jvm.Cond.code x code maxLocals ret :: tables_1
/-- a 'code' word, met by the world's own term for the bytes: nothing is compared byte by byte -/
theorem code_word {y : MethodName} {bytes : ByteArray} {mx : Nat} {rt : Option FieldType} {a : Array Value} {s : State} {m : MethodId} {meth : Method} {c : Code} (h1 : s.methodNamed? y = some m) (h2 : s.vm.method? m = some meth) (h3 : meth.code = some c) (h4 : c.code = bytes)
    (h5 : (c.maxLocals == mx && c.exceptionTable.isEmpty && decide (c.maxStack ≤ mostOperands) && decide (meth.sig.returnType = rt) && !meth.locks && decide (parseMethodDescriptor y.desc = some meth.sig)) = true) : (Jvm.Cond.code y bytes mx rt).before a s = true := by
  simp only [Bool.and_eq_true, beq_iff_eq, Bool.not_eq_true', decide_eq_true_eq] at h5
  obtain ⟨⟨⟨⟨⟨g1, g2⟩, g3⟩, g4⟩, g5⟩, g6⟩ := h5
  simp [Cond.before, Cond.holds, Cond.value, h1, h2, h3, h4, g1, g2, g3, g4, g5, g6]
def isCode : Jvm.Cond → Bool
  | .code _ _ _ _ => true
  | _ => false
theorem all_split {L : List Jvm.Cond} {P : Jvm.Cond → Bool} (h1 : L.all (fun c => isCode c || P c) = true) (h2 : ∀ c ∈ L.filter isCode, P c = true) : L.all P = true := by
  refine List.all_eq_true.mpr fun c hc => ?_
  have h := List.all_eq_true.mp h1 c hc
  rcases Bool.eq_false_or_eq_true (isCode c) with hi | hi
  · exact h2 c (List.mem_filter.mpr ⟨hc, hi⟩)
  · simpa [hi] using h
set_option maxRecDepth 65536 in
theorem w_c0 : (Jvm.Cond.code x code maxLocals ret).before args0 about1 = true := code_word (m := ⟨1, 1⟩) (meth := k1m1) (c := k1c1) (by decide +kernel) rfl rfl rfl (by decide +kernel)
set_option maxRecDepth 65536 in
theorem w_c1 : (Jvm.Cond.code ({ cls := "org/ccsds/moims/mo/mal/structures/Time", name := "<init>", desc := "(J)V" } : Jvm.MethodName) prog_224_method_1_code (3 : Nat) (Option.none : Option Jvm.ClassFile.FieldType)).before args0 about1 = true := code_word (m := ⟨4, 0⟩) (meth := k4m0) (c := k4c0) (by decide +kernel) rfl rfl rfl (by decide +kernel)
set_option maxRecDepth 65536 in
theorem w_c2 : (Jvm.Cond.code ({ cls := "java/lang/Object", name := "<init>", desc := "()V" } : Jvm.MethodName) object_method_1_code (1 : Nat) (Option.none : Option Jvm.ClassFile.FieldType)).before args0 about1 = true := code_word (m := ⟨0, 0⟩) (meth := k0m0) (c := k0c0) (by decide +kernel) rfl rfl rfl (by decide +kernel)
set_option maxRecDepth 65536 in
theorem w_c3 : (Jvm.Cond.code ({ cls := "org/ccsds/moims/mo/mal/structures/Time", name := "equals", desc := "(Ljava/lang/Object;)Z" } : Jvm.MethodName) prog_224_method_11_code (2 : Nat) (Option.some Jvm.ClassFile.FieldType.boolean)).before args0 about1 = true := code_word (m := ⟨4, 1⟩) (meth := k4m1) (c := k4c1) (by decide +kernel) rfl rfl rfl (by decide +kernel)
set_option maxRecDepth 65536 in
theorem w_c4 : (Jvm.Cond.code ({ cls := "org/ccsds/moims/mo/mal/structures/FineTime", name := "<init>", desc := "(J)V" } : Jvm.MethodName) prog_196_method_1_code (3 : Nat) (Option.none : Option Jvm.ClassFile.FieldType)).before args0 about1 = true := code_word (m := ⟨5, 0⟩) (meth := k5m0) (c := k5c0) (by decide +kernel) rfl rfl rfl (by decide +kernel)
set_option maxRecDepth 65536 in
theorem w_c5 : (Jvm.Cond.code ({ cls := "java/lang/Long", name := "valueOf", desc := "(J)Ljava/lang/Long;" } : Jvm.MethodName) jdk_35_method_24_code (3 : Nat) (Option.some (Jvm.ClassFile.FieldType.object "java/lang/Long"))).before args0 about1 = true := code_word (m := ⟨11, 0⟩) (meth := k11m0) (c := k11c0) (by decide +kernel) rfl rfl rfl (by decide +kernel)
set_option maxRecDepth 65536 in
theorem w_c6 : (Jvm.Cond.code ({ cls := "java/lang/Long", name := "<init>", desc := "(J)V" } : Jvm.MethodName) jdk_35_method_26_code (3 : Nat) (Option.none : Option Jvm.ClassFile.FieldType)).before args0 about1 = true := code_word (m := ⟨11, 1⟩) (meth := k11m1) (c := k11c1) (by decide +kernel) rfl rfl rfl (by decide +kernel)
set_option maxRecDepth 65536 in
theorem w_c7 : (Jvm.Cond.code ({ cls := "java/lang/Number", name := "<init>", desc := "()V" } : Jvm.MethodName) jdk_18_method_1_code (1 : Nat) (Option.none : Option Jvm.ClassFile.FieldType)).before args0 about1 = true := code_word (m := ⟨7, 0⟩) (meth := k7m0) (c := k7c0) (by decide +kernel) rfl rfl rfl (by decide +kernel)
def codes1 : List Jvm.Cond := [Jvm.Cond.code x code maxLocals ret, Jvm.Cond.code ({ cls := "org/ccsds/moims/mo/mal/structures/Time", name := "<init>", desc := "(J)V" } : Jvm.MethodName) prog_224_method_1_code (3 : Nat) (Option.none : Option Jvm.ClassFile.FieldType), Jvm.Cond.code ({ cls := "java/lang/Object", name := "<init>", desc := "()V" } : Jvm.MethodName) object_method_1_code (1 : Nat) (Option.none : Option Jvm.ClassFile.FieldType), Jvm.Cond.code ({ cls := "org/ccsds/moims/mo/mal/structures/Time", name := "equals", desc := "(Ljava/lang/Object;)Z" } : Jvm.MethodName) prog_224_method_11_code (2 : Nat) (Option.some Jvm.ClassFile.FieldType.boolean), Jvm.Cond.code ({ cls := "org/ccsds/moims/mo/mal/structures/FineTime", name := "<init>", desc := "(J)V" } : Jvm.MethodName) prog_196_method_1_code (3 : Nat) (Option.none : Option Jvm.ClassFile.FieldType), Jvm.Cond.code ({ cls := "java/lang/Long", name := "valueOf", desc := "(J)Ljava/lang/Long;" } : Jvm.MethodName) jdk_35_method_24_code (3 : Nat) (Option.some (Jvm.ClassFile.FieldType.object "java/lang/Long")), Jvm.Cond.code ({ cls := "java/lang/Long", name := "<init>", desc := "(J)V" } : Jvm.MethodName) jdk_35_method_26_code (3 : Nat) (Option.none : Option Jvm.ClassFile.FieldType), Jvm.Cond.code ({ cls := "java/lang/Number", name := "<init>", desc := "()V" } : Jvm.MethodName) jdk_18_method_1_code (1 : Nat) (Option.none : Option Jvm.ClassFile.FieldType)]
set_option maxRecDepth 65536 in
theorem codes_eq : words1.filter isCode = codes1 := rfl
theorem w_codes : ∀ c ∈ words1.filter isCode, c.before args0 about1 = true := by
  rw [codes_eq]
  intro c hc
  simp only [codes1, List.mem_cons, List.not_mem_nil, or_false] at hc
  rcases hc with rfl | rfl | rfl | rfl | rfl | rfl | rfl | rfl
  · exact w_c0
  · exact w_c1
  · exact w_c2
  · exact w_c3
  · exact w_c4
  · exact w_c5
  · exact w_c6
  · exact w_c7
set_option maxRecDepth 65536 in
theorem w_t1 : (words1.take 24).all (fun c => isCode c || c.before args0 about1) = true := by decide +kernel
set_option maxRecDepth 65536 in
theorem w_t2 : ((words1.drop 24).take 24).all (fun c => isCode c || c.before args0 about1) = true := by decide +kernel
set_option maxRecDepth 65536 in
theorem w_t3 : ((words1.drop 24).drop 24).all (fun c => isCode c || c.before args0 about1) = true := by decide +kernel
theorem w_tables : (allAtoms (Jvm.Cond.code x code maxLocals ret :: tables_1)).before args0 about1 = true := by
  rw [allAtoms_all]
  show words1.all (fun c => c.before args0 about1) = true
  refine all_split ?_ w_codes
  rw [← List.take_append_drop 24 words1, List.all_append, w_t1, ← List.take_append_drop 24 (words1.drop 24), List.all_append, w_t2, w_t3]
  rfl
set_option maxRecDepth 65536 in
theorem w_rest : rest_1_c.before args0 about1 = true := by decide +kernel
set_option maxRecDepth 65536 in
theorem w_case : (Jvm.Cond.and given_1 narrow_1).before args0 about1 = true := by decide +kernel
theorem w_applies : (headSpec (Jvm.Cond.code x code maxLocals ret :: tables_1) room_1).applies x e0.platform about1 = true :=
  (Spec.applies_iff w_frames).mpr ⟨w_running, w_runnable, w_alone, w_named, w_hears, w_ripe, w_room, w_tables⟩
theorem atStart : AtStart classFile x code maxLocals ret World_1 tables_1 room_1 Calls_1 rest_1 Pre_1 launch0 p0 e0 about1 theMethod args0 below0 :=
  ⟨lists_1, trivial, launch0.admits_env _ _ _, launch0.least_env, fairChoices_fair.cas, fairChoices_fair.clock, w_frames, w_args, w_heap, w_applies, trivial, w_rest, w_case⟩
end start1
theorem witness_1 : WitnessClaimed_1 := ⟨start1.p0, start1.e0, start1.about1, start1.theMethod, start1.args0, start1.below0, start1.atStart⟩
end Jvm.Pilot.@@N@@
