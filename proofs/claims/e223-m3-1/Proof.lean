import JvmDerived
import JvmDerived.Pilot.@@N@@Statement
import JvmDerived.Pilot.@@N@@Code
set_option linter.unusedVariables false
set_option linter.unusedSimpArgs false
namespace Jvm.RoadKit
open Sem ClassFile Op Lib Jvm.Stand Jvm.Free Jvm.LawKit
section New
variable {p : Program} {l : Launch} {e : Env} {R : Room} {s : State} {m : MethodId} {args : Array Value} {below : List Frame} {meth : Method} {c : Code} {T : State} {locs : List Loc} {cells slots : Nat}
theorem retI (X : Stand p l e R s m args below meth c T locs cells slots) (hx : p.tables.exec = Jvm.exec) {pc : Nat} {Ls : Array Slot} {z : Int32} {rest : List Value} (hret : meth.sig.returnType = some .int) (hd : decode c.code pc = .ok (.ireturn, 1)) {fs : List Frame}
    (hl : ∀ (f : JFrame) (acts : List Action), f.method = m → f.locked = none → f.entered = [] → (doReturn e (T.setTop f) acts (some (.int z))).1 = T.setFrames fs) : Steps p.tables e below (T.setTop (mkF m pc Ls (.int z :: rest))) (T.setFrames fs) := by
  have hm' : T.vm.method? m = some meth := X.method'
  have hn : narrow .int (.int z) = .int z := rfl
  show Steps p.tables e below (T.setTop { method := m, pc := pc, locals := Ls, stack := _ :: rest, locked := none }) _
  jvm_step X.here [X.here.top, hx, hd, hm', hret, hn]
  first | (intro acts; rw [hl _ acts rfl rfl rfl]) | rw [hl _ _ rfl rfl rfl]
  exact Steps.refl _
end New
end Jvm.RoadKit
namespace Jvm.Pilot.@@N@@
open Jvm Jvm.ClassFile Sem Op Lib Jvm.Free Jvm.Stand Jvm.LawKit Jvm.RoadKit Bundle Jvm.Pilot.@@N@@.Jvm.D
/-! from here the body runs to its end, and leaves what Q says -/
def Goes (p : Program) (e : Env) (below : List Frame) (Q : Outcome → State → Prop) (st : State) : Prop :=
  ∃ s₂ o, Steps p.tables e below st s₂ ∧ s₂.status = .running ∧ Ended s₂ below o ∧ Q o s₂
theorem Goes.go {p : Program} {e : Env} {below : List Frame} {Q : Outcome → State → Prop} {st st' : State} (h : ∀ t, Steps p.tables e below st' t → Steps p.tables e below st t) (k : Goes p e below Q st') : Goes p e below Q st := by
  obtain ⟨s₂, o, h1, h2⟩ := k
  exact ⟨s₂, o, h _ h1, h2⟩
theorem Goes.via {p : Program} {e : Env} {below : List Frame} {Q : Outcome → State → Prop} {st st' : State} (h : Steps p.tables e below st st') (k : Goes p e below Q st') : Goes p e below Q st :=
  Goes.go (fun _ q => h.trans q) k
theorem Goes.out {p : Program} {l : Launch} {e : Env} {R : Room} {s : State} {m : MethodId} {args : Array Value} {below : List Frame} {meth : Method} {c : Code} {T : State} {locs : List Loc} {cells slots : Nat}
    (X : Stand p l e R s m args below meth c T locs cells slots) {v : Option Value} {g : JFrame} (hv : meth.sig.returnType = none → v = none) (hlocks : meth.locks = false)
    (hst : ∀ fs : List Frame, (∀ (f : JFrame) (acts : List Action), f.method = m → f.locked = none → f.entered = [] → (doReturn e (T.setTop f) acts v).1 = T.setFrames fs) → Steps p.tables e below (T.setTop g) (T.setFrames fs))
    {Qn : Option Value → Heap → List Loc → Prop} {C S : Nat} (hq : Qn v T.heap locs) (hC : cells ≤ C) (hS : slots ≤ S) :
    Goes p e below (fun o U' => ∃ v L, o = .returned v ∧ Qn v U'.heap L ∧ FrameEnd s o U' L C S) (T.setTop g) := by
  obtain ⟨fs, hr, hrun, hended, hW, hsame⟩ := X.leave (v := v) hv hlocks
  exact ⟨_, _, hst fs hr, hrun, hended, _, _, rfl, hq, ⟨_, rfl⟩, hW, hsame.mono hC hS⟩

/-- what the callee answers, by the four constants that lead to one node at the most -/
def own_many (a s p t n : Addr) : Int32 := if a = s ∨ a = p ∨ a = t ∨ a = n then 0 else 1
theorem own_many_t {f : Addr → Option Value} {a s p t n : Addr} {ka ks kp kt kn : Int32} (fa : f a = some (.int ka)) (fs : f s = some (.int ks)) (fp : f p = some (.int kp)) (ft : f t = some (.int kt)) (fn : f n = some (.int kn)) (h1 : ka ≠ ks) (h2 : ka ≠ kp) (h3 : ka ≠ kt) (h4 : ka ≠ kn) : own_many a s p t n = 1 := by
  have ne : ∀ {b : Addr} {kb : Int32}, f b = some (.int kb) → ka ≠ kb → a ≠ b := fun fb hk e => by
    subst e; rw [fa] at fb; exact hk (Value.int.inj (Option.some.inj fb))
  unfold own_many
  rw [if_neg]
  rintro (h | h | h | h)
  · exact ne fs h1 h
  · exact ne fp h2 h
  · exact ne ft h3 h
  · exact ne fn h4 h
theorem own_ord {args : Array Value} {s : State} {t : Term} {C n d : String} {x : Addr} {k : Int32} (ht : t.eval args s none [] s = some (.ref x)) (h : (Jvm.Cond.eq (Term.field t C n d) (Term.int k)).value args s none s [] = some true) : s.fieldOf? x C n d = some (.int k) := by
  obtain ⟨u, w, h1, h2, h3, -⟩ := cmp_v (Or.inl h)
  rw [fld_at ht] at h1
  have h2' : w = .int k := by have q := Term.int_eval (args := args) (first := s) (o := none) (idx := []) (s := s) k; rw [q] at h2; exact (Option.some.inj h2).symm
  subst h2'
  have hu : ∃ z, u = .int z := by cases u <;> simp_all [Kin, Value.isRef]
  obtain ⟨z, rfl⟩ := hu
  have := gotT (P := z = k) (u := (Jvm.Cond.eq (Term.field t C n d) (Term.int k)).value args s none s []) (by simp [Cond.value, fld_at ht, h1, h2]) h
  rw [h1, this]
theorem d1_0 : decode prog_42_method_10_code 0 = .ok (.aload_n 0, 1) := by decide +kernel
theorem d1_1 : decode prog_42_method_10_code 1 = .ok (.getstatic 13, 3) := by decide +kernel
theorem d1_4 : decode prog_42_method_10_code 4 = .ok (.if_acmp .eq 28, 3) := by decide +kernel
theorem d1_7 : decode prog_42_method_10_code 7 = .ok (.aload_n 0, 1) := by decide +kernel
theorem d1_8 : decode prog_42_method_10_code 8 = .ok (.getstatic 28, 3) := by decide +kernel
theorem d1_11 : decode prog_42_method_10_code 11 = .ok (.if_acmp .eq 21, 3) := by decide +kernel
theorem d1_14 : decode prog_42_method_10_code 14 = .ok (.aload_n 0, 1) := by decide +kernel
theorem d1_15 : decode prog_42_method_10_code 15 = .ok (.getstatic 10, 3) := by decide +kernel
theorem d1_18 : decode prog_42_method_10_code 18 = .ok (.if_acmp .eq 14, 3) := by decide +kernel
theorem d1_21 : decode prog_42_method_10_code 21 = .ok (.aload_n 0, 1) := by decide +kernel
theorem d1_22 : decode prog_42_method_10_code 22 = .ok (.getstatic 25, 3) := by decide +kernel
theorem d1_25 : decode prog_42_method_10_code 25 = .ok (.if_acmp .eq 7, 3) := by decide +kernel
theorem d1_28 : decode prog_42_method_10_code 28 = .ok (.iconst 1, 1) := by decide +kernel
theorem d1_29 : decode prog_42_method_10_code 29 = .ok (.goto 4, 3) := by decide +kernel
theorem d1_32 : decode prog_42_method_10_code 32 = .ok (.iconst 0, 1) := by decide +kernel
theorem d1_33 : decode prog_42_method_10_code 33 = .ok (.ireturn, 1) := by decide +kernel
theorem pn_1 : plainName "com/example/thames/thames/engine/Axis" = true := by first | (simp [plainName, overriddenIn]; done) | decide +kernel
theorem ef_1 (m : MethodId) (o0 : Addr) : entryFrame m #[(.ref o0)] 1 = mkF m 0 #[.val (.ref o0)] [] := by first | (simp [entryFrame, mkF, argsToLocals, Value.category]; done) | rfl
def Q1 (Z : State) (o0 : Addr) (w_SELF : Addr) (w_PARENT : Addr) (w_ATTRIBUTE : Addr) (w_NAMESPACE : Addr) (h0 : Heap) (n0 : Nat) (v : Option Value) (h : Heap) (L : List Loc) : Prop := v = some (.int (own_many o0 w_SELF w_PARENT w_ATTRIBUTE w_NAMESPACE)) ∧ Fr n0 L ∧ h = h0
set_option maxRecDepth 65536 in
set_option maxHeartbeats 40000000 in
theorem rm1 (l : Launch) (Z : State) (a0 : Array Value) (hw : ∀ d ∈ tables_1, d.before a0 Z = true) (ws : List Jvm.Cond) (o0 : Addr) (w_SELF : Addr) (w_PARENT : Addr) (w_ATTRIBUTE : Addr) (w_NAMESPACE : Addr) (h0 : Heap) (n0 : Nat) (Z0 : n0 ≤ h0.size) (S_SELF : Sta Z h0 "com/example/thames/thames/engine/Axis" "SELF" "Lcom/example/thames/thames/engine/Axis;" (.ref w_SELF)) (S_PARENT : Sta Z h0 "com/example/thames/thames/engine/Axis" "PARENT" "Lcom/example/thames/thames/engine/Axis;" (.ref w_PARENT)) (S_ATTRIBUTE : Sta Z h0 "com/example/thames/thames/engine/Axis" "ATTRIBUTE" "Lcom/example/thames/thames/engine/Axis;" (.ref w_ATTRIBUTE)) (S_NAMESPACE : Sta Z h0 "com/example/thames/thames/engine/Axis" "NAMESPACE" "Lcom/example/thames/thames/engine/Axis;" (.ref w_NAMESPACE)) :
    MetFree l (⟨"com/example/thames/thames/engine/Axis", "mayLeadToMany", "()Z"⟩ : MethodName) (head1 (Jvm.Cond.code (⟨"com/example/thames/thames/engine/Axis", "mayLeadToMany", "()Z"⟩ : MethodName) prog_42_method_10_code 1 (some .boolean) :: ws) ({ frames := 0, cells := 0, slots := 0, locals := 0 } : Room)) (fun a U => a = #[(.ref o0)] ∧ Z.Warmed39 U.vm ∧ U.heap = h0) (fun _ _ _ _ _ => True) (fun _ U o U' => ∃ v L, o = .returned v ∧ Q1 Z o0 w_SELF w_PARENT w_ATTRIBUTE w_NAMESPACE h0 n0 v U'.heap L ∧ FrameEnd U o U' L ({ frames := 0, cells := 0, slots := 0, locals := 0 } : Room).cells ({ frames := 0, cells := 0, slots := 0, locals := 0 } : Room).slots) := by
  refine MetFree.of_bodySF (plainFor_of_name pn_1) hisR ?_
  intro p e s m args below meth c s₁ Bd hml0 hP hK
  obtain ⟨rfl, hZ, hh⟩ := hP
  have hx := Bd.exec
  have hby := Bd.bytes
  have hml : c.maxLocals = 1 := hml0
  have hown : s.vm.findClass "com/example/thames/thames/engine/Axis" = some m.cls := findClass_of_methodNamed Bd.named
  have hnm := (name_of_methodNamed Bd.named Bd.method).1
  have X0 : Stand p l e ({ frames := 0, cells := 0, slots := 0, locals := 0 } : Room) s m #[(.ref o0)] below meth c s₁ [] 0 0 := Stand.of_body Bd
  have e0 : s₁.heap = h0 := by rw [← hh, Bd.state]; rfl
  have N0 := Fr.nil n0
  show Goes p e below (fun o U' => ∃ v L, o = .returned v ∧ Q1 Z o0 w_SELF w_PARENT w_ATTRIBUTE w_NAMESPACE h0 n0 v U'.heap L ∧ FrameEnd s o U' L ({ frames := 0, cells := 0, slots := 0, locals := 0 } : Room).cells ({ frames := 0, cells := 0, slots := 0, locals := 0 } : Room).slots) _
  refine Goes.go (fun t k => castTop (ef_1 m o0) k) ?_
  show Goes p e below _ (s₁.setTop (mkF m 0 #[.val (.ref o0)] []))
  refine Goes.go (fun t => XS.aloadN X0.here hx rfl (hb hby d1_0) rfl rfl ) ?_
  show Goes p e below _ (s₁.setTop (mkF m 1 #[.val (.ref o0)] [(.ref o0)]))
  obtain ⟨T1, X1, e1, st1⟩ := getS2 X0 hx hZ hown (host := "") (Or.inl (hw _ (List.mem_of_getElem? (i := 9) rfl))) Via.refl e0 S_SELF (g := (mkF m 1 #[.val (.ref o0)] [(.ref o0)])) rfl (hb hby d1_1)
  refine Goes.go st1 ?_
  show Goes p e below _ (T1.setTop (mkF m 4 #[.val (.ref o0)] [(.ref w_SELF), (.ref o0)]))
  by_cases ha4 : o0 = w_SELF
  · refine Goes.go (fun t => Jvm.RoadKit.acmp (g := (mkF m 4 #[.val (.ref o0)] [(.ref w_SELF), (.ref o0)])) X1 hx rfl rfl rfl (pc0 := 4) (pc' := 32) (same := true) rfl (hb hby d1_4) rfl (decide_eq_true (congrArg Value.ref ha4)) (by decide) (by decide)) ?_
    show Goes p e below _ (T1.setTop (mkF m 32 #[.val (.ref o0)] []))
    refine Goes.go (fun t => XS.iconst X1.here hx rfl (hb hby d1_32)) ?_
    show Goes p e below _ (T1.setTop (mkF m 33 #[.val (.ref o0)] [(.int (0 : Int32))]))
    exact Goes.out X1 (fun h => by rw [Bd.returns] at h; cases h) Bd.notSynchronized (fun fs hr => retN X1 hx (t := .boolean) Bd.returns (by simp) (hb hby d1_33) hr) ⟨by simp [own_many, nar, ha4], N0, e1⟩ (by decide) (by decide)
  · refine Goes.go (fun t => Jvm.RoadKit.acmp (g := (mkF m 4 #[.val (.ref o0)] [(.ref w_SELF), (.ref o0)])) X1 hx rfl rfl rfl (pc0 := 4) (pc' := 7) (same := false) rfl (hb hby d1_4) rfl (decide_eq_false fun q => ha4 (Value.ref.inj q)) (by decide) (by decide)) ?_
    show Goes p e below _ (T1.setTop (mkF m 7 #[.val (.ref o0)] []))
    refine Goes.go (fun t => XS.aloadN X1.here hx rfl (hb hby d1_7) rfl rfl ) ?_
    show Goes p e below _ (T1.setTop (mkF m 8 #[.val (.ref o0)] [(.ref o0)]))
    obtain ⟨T2, X2, e2, st2⟩ := getS2 X1 hx hZ hown (host := "") (Or.inl (hw _ (List.mem_of_getElem? (i := 11) rfl))) Via.refl e1 S_PARENT (g := (mkF m 8 #[.val (.ref o0)] [(.ref o0)])) rfl (hb hby d1_8)
    refine Goes.go st2 ?_
    show Goes p e below _ (T2.setTop (mkF m 11 #[.val (.ref o0)] [(.ref w_PARENT), (.ref o0)]))
    by_cases ha11 : o0 = w_PARENT
    · refine Goes.go (fun t => Jvm.RoadKit.acmp (g := (mkF m 11 #[.val (.ref o0)] [(.ref w_PARENT), (.ref o0)])) X2 hx rfl rfl rfl (pc0 := 11) (pc' := 32) (same := true) rfl (hb hby d1_11) rfl (decide_eq_true (congrArg Value.ref ha11)) (by decide) (by decide)) ?_
      show Goes p e below _ (T2.setTop (mkF m 32 #[.val (.ref o0)] []))
      refine Goes.go (fun t => XS.iconst X2.here hx rfl (hb hby d1_32)) ?_
      show Goes p e below _ (T2.setTop (mkF m 33 #[.val (.ref o0)] [(.int (0 : Int32))]))
      exact Goes.out X2 (fun h => by rw [Bd.returns] at h; cases h) Bd.notSynchronized (fun fs hr => retN X2 hx (t := .boolean) Bd.returns (by simp) (hb hby d1_33) hr) ⟨by simp [own_many, nar, ha4, ha11], N0, e2⟩ (by decide) (by decide)
    · refine Goes.go (fun t => Jvm.RoadKit.acmp (g := (mkF m 11 #[.val (.ref o0)] [(.ref w_PARENT), (.ref o0)])) X2 hx rfl rfl rfl (pc0 := 11) (pc' := 14) (same := false) rfl (hb hby d1_11) rfl (decide_eq_false fun q => ha11 (Value.ref.inj q)) (by decide) (by decide)) ?_
      show Goes p e below _ (T2.setTop (mkF m 14 #[.val (.ref o0)] []))
      refine Goes.go (fun t => XS.aloadN X2.here hx rfl (hb hby d1_14) rfl rfl ) ?_
      show Goes p e below _ (T2.setTop (mkF m 15 #[.val (.ref o0)] [(.ref o0)]))
      obtain ⟨T3, X3, e3, st3⟩ := getS2 X2 hx hZ hown (host := "") (Or.inl (hw _ (List.mem_of_getElem? (i := 13) rfl))) Via.refl e2 S_ATTRIBUTE (g := (mkF m 15 #[.val (.ref o0)] [(.ref o0)])) rfl (hb hby d1_15)
      refine Goes.go st3 ?_
      show Goes p e below _ (T3.setTop (mkF m 18 #[.val (.ref o0)] [(.ref w_ATTRIBUTE), (.ref o0)]))
      by_cases ha18 : o0 = w_ATTRIBUTE
      · refine Goes.go (fun t => Jvm.RoadKit.acmp (g := (mkF m 18 #[.val (.ref o0)] [(.ref w_ATTRIBUTE), (.ref o0)])) X3 hx rfl rfl rfl (pc0 := 18) (pc' := 32) (same := true) rfl (hb hby d1_18) rfl (decide_eq_true (congrArg Value.ref ha18)) (by decide) (by decide)) ?_
        show Goes p e below _ (T3.setTop (mkF m 32 #[.val (.ref o0)] []))
        refine Goes.go (fun t => XS.iconst X3.here hx rfl (hb hby d1_32)) ?_
        show Goes p e below _ (T3.setTop (mkF m 33 #[.val (.ref o0)] [(.int (0 : Int32))]))
        exact Goes.out X3 (fun h => by rw [Bd.returns] at h; cases h) Bd.notSynchronized (fun fs hr => retN X3 hx (t := .boolean) Bd.returns (by simp) (hb hby d1_33) hr) ⟨by simp [own_many, nar, ha4, ha11, ha18], N0, e3⟩ (by decide) (by decide)
      · refine Goes.go (fun t => Jvm.RoadKit.acmp (g := (mkF m 18 #[.val (.ref o0)] [(.ref w_ATTRIBUTE), (.ref o0)])) X3 hx rfl rfl rfl (pc0 := 18) (pc' := 21) (same := false) rfl (hb hby d1_18) rfl (decide_eq_false fun q => ha18 (Value.ref.inj q)) (by decide) (by decide)) ?_
        show Goes p e below _ (T3.setTop (mkF m 21 #[.val (.ref o0)] []))
        refine Goes.go (fun t => XS.aloadN X3.here hx rfl (hb hby d1_21) rfl rfl ) ?_
        show Goes p e below _ (T3.setTop (mkF m 22 #[.val (.ref o0)] [(.ref o0)]))
        obtain ⟨T4, X4, e4, st4⟩ := getS2 X3 hx hZ hown (host := "") (Or.inl (hw _ (List.mem_of_getElem? (i := 15) rfl))) Via.refl e3 S_NAMESPACE (g := (mkF m 22 #[.val (.ref o0)] [(.ref o0)])) rfl (hb hby d1_22)
        refine Goes.go st4 ?_
        show Goes p e below _ (T4.setTop (mkF m 25 #[.val (.ref o0)] [(.ref w_NAMESPACE), (.ref o0)]))
        by_cases ha25 : o0 = w_NAMESPACE
        · refine Goes.go (fun t => Jvm.RoadKit.acmp (g := (mkF m 25 #[.val (.ref o0)] [(.ref w_NAMESPACE), (.ref o0)])) X4 hx rfl rfl rfl (pc0 := 25) (pc' := 32) (same := true) rfl (hb hby d1_25) rfl (decide_eq_true (congrArg Value.ref ha25)) (by decide) (by decide)) ?_
          show Goes p e below _ (T4.setTop (mkF m 32 #[.val (.ref o0)] []))
          refine Goes.go (fun t => XS.iconst X4.here hx rfl (hb hby d1_32)) ?_
          show Goes p e below _ (T4.setTop (mkF m 33 #[.val (.ref o0)] [(.int (0 : Int32))]))
          exact Goes.out X4 (fun h => by rw [Bd.returns] at h; cases h) Bd.notSynchronized (fun fs hr => retN X4 hx (t := .boolean) Bd.returns (by simp) (hb hby d1_33) hr) ⟨by simp [own_many, nar, ha4, ha11, ha18, ha25], N0, e4⟩ (by decide) (by decide)
        · refine Goes.go (fun t => Jvm.RoadKit.acmp (g := (mkF m 25 #[.val (.ref o0)] [(.ref w_NAMESPACE), (.ref o0)])) X4 hx rfl rfl rfl (pc0 := 25) (pc' := 28) (same := false) rfl (hb hby d1_25) rfl (decide_eq_false fun q => ha25 (Value.ref.inj q)) (by decide) (by decide)) ?_
          show Goes p e below _ (T4.setTop (mkF m 28 #[.val (.ref o0)] []))
          refine Goes.go (fun t => XS.iconst X4.here hx rfl (hb hby d1_28)) ?_
          show Goes p e below _ (T4.setTop (mkF m 29 #[.val (.ref o0)] [(.int (1 : Int32))]))
          refine Goes.go (fun t => XS.goto X4.here hx rfl (pc0 := 29) (pc' := 33) rfl (hb hby d1_29) (by decide) (by decide)) ?_
          show Goes p e below _ (T4.setTop (mkF m 33 #[.val (.ref o0)] [(.int (1 : Int32))]))
          exact Goes.out X4 (fun h => by rw [Bd.returns] at h; cases h) Bd.notSynchronized (fun fs hr => retN X4 hx (t := .boolean) Bd.returns (by simp) (hb hby d1_33) hr) ⟨by simp [own_many, nar, ha4, ha11, ha18, ha25], N0, e4⟩ (by decide) (by decide)
theorem pn_0 : plainName "com/example/thames/thames/engine/AxisMayLeadToManyPinLaw" = true := by first | (simp [plainName, overriddenIn]; done) | decide +kernel
theorem pd0_0 : parseMethodDescriptor "()Z" = some ⟨[], some .boolean⟩ := by decide +kernel
theorem ef_0 (m : MethodId) (p0 : Int32) : entryFrame m #[(.int p0)] maxLocals = mkF m 0 #[.val (.int p0), .unset, .unset, .unset] [] := by first | (simp [entryFrame, mkF, argsToLocals, Value.category, maxLocals]; done) | rfl
def Q0 (Z : State) (p0 : Int32) (w_CHILD : Addr) (w_DESCENDANT : Addr) (w_ATTRIBUTE : Addr) (w_SELF : Addr) (w_DESCENDANT_OR_SELF : Addr) (w_FOLLOWING_SIBLING : Addr) (w_FOLLOWING : Addr) (w_NAMESPACE : Addr) (w_PARENT : Addr) (w_ANCESTOR : Addr) (w_PRECEDING_SIBLING : Addr) (w_PRECEDING : Addr) (w_ANCESTOR_OR_SELF : Addr) (f : Addr → Option Value) (h0 : Heap) (n0 : Nat) (v : Option Value) (h : Heap) (L : List Loc) : Prop := v = some (.int 1) ∧ Fr n0 L
set_option maxRecDepth 65536 in
set_option maxHeartbeats 40000000 in
theorem rm0 (l : Launch) (Z : State) (a0 : Array Value) (hw : ∀ d ∈ tables_1, d.before a0 Z = true) (ws : List Jvm.Cond) (p0 : Int32) (w_CHILD : Addr) (w_DESCENDANT : Addr) (w_ATTRIBUTE : Addr) (w_SELF : Addr) (w_DESCENDANT_OR_SELF : Addr) (w_FOLLOWING_SIBLING : Addr) (w_FOLLOWING : Addr) (w_NAMESPACE : Addr) (w_PARENT : Addr) (w_ANCESTOR : Addr) (w_PRECEDING_SIBLING : Addr) (w_PRECEDING : Addr) (w_ANCESTOR_OR_SELF : Addr) (f : Addr → Option Value) (h0 : Heap) (n0 : Nat) (Z0 : n0 ≤ h0.size) (S_CHILD : Sta Z h0 "com/example/thames/thames/engine/Axis" "CHILD" "Lcom/example/thames/thames/engine/Axis;" (.ref w_CHILD)) (S_DESCENDANT : Sta Z h0 "com/example/thames/thames/engine/Axis" "DESCENDANT" "Lcom/example/thames/thames/engine/Axis;" (.ref w_DESCENDANT)) (S_ATTRIBUTE : Sta Z h0 "com/example/thames/thames/engine/Axis" "ATTRIBUTE" "Lcom/example/thames/thames/engine/Axis;" (.ref w_ATTRIBUTE)) (S_SELF : Sta Z h0 "com/example/thames/thames/engine/Axis" "SELF" "Lcom/example/thames/thames/engine/Axis;" (.ref w_SELF)) (S_DESCENDANT_OR_SELF : Sta Z h0 "com/example/thames/thames/engine/Axis" "DESCENDANT_OR_SELF" "Lcom/example/thames/thames/engine/Axis;" (.ref w_DESCENDANT_OR_SELF)) (S_FOLLOWING_SIBLING : Sta Z h0 "com/example/thames/thames/engine/Axis" "FOLLOWING_SIBLING" "Lcom/example/thames/thames/engine/Axis;" (.ref w_FOLLOWING_SIBLING)) (S_FOLLOWING : Sta Z h0 "com/example/thames/thames/engine/Axis" "FOLLOWING" "Lcom/example/thames/thames/engine/Axis;" (.ref w_FOLLOWING)) (S_NAMESPACE : Sta Z h0 "com/example/thames/thames/engine/Axis" "NAMESPACE" "Lcom/example/thames/thames/engine/Axis;" (.ref w_NAMESPACE)) (S_PARENT : Sta Z h0 "com/example/thames/thames/engine/Axis" "PARENT" "Lcom/example/thames/thames/engine/Axis;" (.ref w_PARENT)) (S_ANCESTOR : Sta Z h0 "com/example/thames/thames/engine/Axis" "ANCESTOR" "Lcom/example/thames/thames/engine/Axis;" (.ref w_ANCESTOR)) (S_PRECEDING_SIBLING : Sta Z h0 "com/example/thames/thames/engine/Axis" "PRECEDING_SIBLING" "Lcom/example/thames/thames/engine/Axis;" (.ref w_PRECEDING_SIBLING)) (S_PRECEDING : Sta Z h0 "com/example/thames/thames/engine/Axis" "PRECEDING" "Lcom/example/thames/thames/engine/Axis;" (.ref w_PRECEDING)) (S_ANCESTOR_OR_SELF : Sta Z h0 "com/example/thames/thames/engine/Axis" "ANCESTOR_OR_SELF" "Lcom/example/thames/thames/engine/Axis;" (.ref w_ANCESTOR_OR_SELF)) (E_CHILD : Exa Z h0 w_CHILD "com/example/thames/thames/engine/Axis") (E_DESCENDANT : Exa Z h0 w_DESCENDANT "com/example/thames/thames/engine/Axis") (E_ATTRIBUTE : Exa Z h0 w_ATTRIBUTE "com/example/thames/thames/engine/Axis") (E_SELF : Exa Z h0 w_SELF "com/example/thames/thames/engine/Axis") (E_DESCENDANT_OR_SELF : Exa Z h0 w_DESCENDANT_OR_SELF "com/example/thames/thames/engine/Axis") (E_FOLLOWING_SIBLING : Exa Z h0 w_FOLLOWING_SIBLING "com/example/thames/thames/engine/Axis") (E_FOLLOWING : Exa Z h0 w_FOLLOWING "com/example/thames/thames/engine/Axis") (E_NAMESPACE : Exa Z h0 w_NAMESPACE "com/example/thames/thames/engine/Axis") (E_PARENT : Exa Z h0 w_PARENT "com/example/thames/thames/engine/Axis") (E_ANCESTOR : Exa Z h0 w_ANCESTOR "com/example/thames/thames/engine/Axis") (E_PRECEDING_SIBLING : Exa Z h0 w_PRECEDING_SIBLING "com/example/thames/thames/engine/Axis") (E_PRECEDING : Exa Z h0 w_PRECEDING "com/example/thames/thames/engine/Axis") (E_ANCESTOR_OR_SELF : Exa Z h0 w_ANCESTOR_OR_SELF "com/example/thames/thames/engine/Axis") (O_CHILD : f w_CHILD = some (.int (0 : Int32))) (O_DESCENDANT : f w_DESCENDANT = some (.int (1 : Int32))) (O_ATTRIBUTE : f w_ATTRIBUTE = some (.int (2 : Int32))) (O_SELF : f w_SELF = some (.int (3 : Int32))) (O_DESCENDANT_OR_SELF : f w_DESCENDANT_OR_SELF = some (.int (4 : Int32))) (O_FOLLOWING_SIBLING : f w_FOLLOWING_SIBLING = some (.int (5 : Int32))) (O_FOLLOWING : f w_FOLLOWING = some (.int (6 : Int32))) (O_NAMESPACE : f w_NAMESPACE = some (.int (7 : Int32))) (O_PARENT : f w_PARENT = some (.int (8 : Int32))) (O_ANCESTOR : f w_ANCESTOR = some (.int (9 : Int32))) (O_PRECEDING_SIBLING : f w_PRECEDING_SIBLING = some (.int (10 : Int32))) (O_PRECEDING : f w_PRECEDING = some (.int (11 : Int32))) (O_ANCESTOR_OR_SELF : f w_ANCESTOR_OR_SELF = some (.int (12 : Int32))) :
    MetFree l x (head1 (Jvm.Cond.code x code maxLocals ret :: ws) room_1) (fun a U => a = #[(.int p0)] ∧ Z.Warmed39 U.vm ∧ U.heap = h0) (fun _ _ _ _ _ => True) (fun _ U o U' => ∃ v L, o = .returned v ∧ Q0 Z p0 w_CHILD w_DESCENDANT w_ATTRIBUTE w_SELF w_DESCENDANT_OR_SELF w_FOLLOWING_SIBLING w_FOLLOWING w_NAMESPACE w_PARENT w_ANCESTOR w_PRECEDING_SIBLING w_PRECEDING w_ANCESTOR_OR_SELF f h0 n0 v U'.heap L ∧ FrameEnd U o U' L room_1.cells room_1.slots) := by
  refine MetFree.of_bodySF (plainFor_of_name pn_0) hisR ?_
  intro p e s m args below meth c s₁ Bd hml0 hP hK
  obtain ⟨rfl, hZ, hh⟩ := hP
  have hx := Bd.exec
  have hby := Bd.bytes
  have hml : c.maxLocals = 4 := hml0
  have hown : s.vm.findClass "com/example/thames/thames/engine/AxisMayLeadToManyPinLaw" = some m.cls := findClass_of_methodNamed Bd.named
  have hnm := (name_of_methodNamed Bd.named Bd.method).1
  have X0 : Stand p l e room_1 s m #[(.int p0)] below meth c s₁ [] 0 0 := Stand.of_body Bd
  have e0 : s₁.heap = h0 := by rw [← hh, Bd.state]; rfl
  have N0 := Fr.nil n0
  show Goes p e below (fun o U' => ∃ v L, o = .returned v ∧ Q0 Z p0 w_CHILD w_DESCENDANT w_ATTRIBUTE w_SELF w_DESCENDANT_OR_SELF w_FOLLOWING_SIBLING w_FOLLOWING w_NAMESPACE w_PARENT w_ANCESTOR w_PRECEDING_SIBLING w_PRECEDING w_ANCESTOR_OR_SELF f h0 n0 v U'.heap L ∧ FrameEnd s o U' L room_1.cells room_1.slots) _
  refine Goes.go (fun t k => castTop (ef_0 m p0) k) ?_
  have j187 : ∀ (T : State) (X : Stand p l e room_1 s m #[(.int p0)] below meth c T [] 0 0) (eT : T.heap = h0) (w : Addr) (b : Int32) (Ew : Exa Z h0 w "com/example/thames/thames/engine/Axis") (hv : own_many w w_SELF w_PARENT w_ATTRIBUTE w_NAMESPACE = b), Goes p e below (fun o U' => ∃ v L, o = .returned v ∧ Q0 Z p0 w_CHILD w_DESCENDANT w_ATTRIBUTE w_SELF w_DESCENDANT_OR_SELF w_FOLLOWING_SIBLING w_FOLLOWING w_NAMESPACE w_PARENT w_ANCESTOR w_PRECEDING_SIBLING w_PRECEDING w_ANCESTOR_OR_SELF f h0 n0 v U'.heap L ∧ FrameEnd s o U' L room_1.cells room_1.slots) (T.setTop (mkF m 187 #[.val (.int p0), .val (.int ((p0 &&& (2147483647 : Int32)) % (13 : Int32))), .val (.ref w), .val (.int b)] [])) := by
    intro T X eT w b Ew hv
    show Goes p e below _ (T.setTop (mkF m 187 #[.val (.int p0), .val (.int ((p0 &&& (2147483647 : Int32)) % (13 : Int32))), .val (.ref w), .val (.int b)] []))
    refine Goes.go (fun t => XS.aloadN X.here hx rfl (hb hby at_187) rfl rfl ) ?_
    show Goes p e below _ (T.setTop (mkF m 188 #[.val (.int p0), .val (.int ((p0 &&& (2147483647 : Int32)) % (13 : Int32))), .val (.ref w), .val (.int b)] [(.ref w)]))
    obtain ⟨cq1, kq1, q1a, q1b, q1c⟩ := isOf hZ eT Ew
    obtain ⟨_, _, ⟨T1, L1, k1, n1⟩, -, X1, ⟨Lc1, hQ1, l1, y1, z1⟩, st1⟩ := X.virtualBack hx (y := (⟨"com/example/thames/thames/engine/Axis", "mayLeadToMany", "()Z"⟩ : MethodName)) (z := (⟨"com/example/thames/thames/engine/Axis", "mayLeadToMany", "()Z"⟩ : MethodName)) hown (mvT hZ (hw _ (List.mem_of_getElem? (i := 4) rfl))) (mvT hZ (hw _ (List.mem_of_getElem? (i := 5) rfl))) (notFace_of_selects (args := #[]) (mvT hZ (hw _ (List.mem_of_getElem? (i := 7) rfl)))) (mvT hZ (hw _ (List.mem_of_getElem? (i := 7) rfl))) (mvT hZ (hw _ (List.mem_of_getElem? (i := 6) rfl))) (by decide) (backOf (W := 0) (rm1 l Z a0 hw [] w w_SELF w_PARENT w_ATTRIBUTE w_NAMESPACE h0 n0 Z0 S_SELF S_PARENT S_ATTRIBUTE S_NAMESPACE) hZ (hw _ (List.mem_of_getElem? (i := 8) rfl)) (hw _ (List.mem_of_getElem? (i := 2) rfl)) (by decide) (by decide)) q1a q1c (g := (mkF m 188 #[.val (.int p0), .val (.int ((p0 &&& (2147483647 : Int32)) % (13 : Int32))), .val (.ref w), .val (.int b)] [(.ref w)])) rfl (by rw [hml]; rfl) (Steps.refl _) (argsL := []) (rest := []) (lenOf pd0_0 rfl) rfl (by show 2 * 0 + _ ≤ _; exact Nat.le_of_eq rfl) (hb hby at_188) (fun _ _ => ⟨rfl, eT, (by decide : 0 + 0 ≤ _), (by decide : 0 + 0 ≤ _)⟩)
    dsimp only [Pt.U, Pt.locs, Pt.cells, Pt.slots] at X1 l1 y1 z1 st1 hQ1
    subst l1 y1 z1
    obtain ⟨rfl, N1q, e1q⟩ := hQ1
    have N1 := Fr.app N0 N1q
    refine Goes.via st1 ?_
    show Goes p e below _ (T1.setTop (mkF m 191 #[.val (.int p0), .val (.int ((p0 &&& (2147483647 : Int32)) % (13 : Int32))), .val (.ref w), .val (.int b)] [(.int (own_many w w_SELF w_PARENT w_ATTRIBUTE w_NAMESPACE))]))
    refine Goes.go (fun t => XS.iloadN X1.here hx rfl (hb hby at_191) rfl ) ?_
    show Goes p e below _ (T1.setTop (mkF m 192 #[.val (.int p0), .val (.int ((p0 &&& (2147483647 : Int32)) % (13 : Int32))), .val (.ref w), .val (.int b)] [(.int b), (.int (own_many w w_SELF w_PARENT w_ATTRIBUTE w_NAMESPACE))]))
    refine Goes.go (fun t => XS.icmpNo X1.here hx rfl (hb hby at_192) rfl (Jvm.Free.XT.ii_ne_f hv)) ?_
    show Goes p e below _ (T1.setTop (mkF m 195 #[.val (.int p0), .val (.int ((p0 &&& (2147483647 : Int32)) % (13 : Int32))), .val (.ref w), .val (.int b)] []))
    refine Goes.go (fun t => XS.iconst X1.here hx rfl (hb hby at_195)) ?_
    show Goes p e below _ (T1.setTop (mkF m 196 #[.val (.int p0), .val (.int ((p0 &&& (2147483647 : Int32)) % (13 : Int32))), .val (.ref w), .val (.int b)] [(.int (1 : Int32))]))
    refine Goes.go (fun t => XS.goto X1.here hx rfl (pc0 := 196) (pc' := 200) rfl (hb hby at_196) (by decide) (by decide)) ?_
    show Goes p e below _ (T1.setTop (mkF m 200 #[.val (.int p0), .val (.int ((p0 &&& (2147483647 : Int32)) % (13 : Int32))), .val (.ref w), .val (.int b)] [(.int (1 : Int32))]))
    exact Goes.out X1 (fun h => by rw [Bd.returns] at h; cases h) Bd.notSynchronized (fun fs hr => retN X1 hx (t := .boolean) Bd.returns (by simp) (hb hby at_200) hr) ⟨rfl, N1⟩ (by decide) (by decide)
  show Goes p e below _ (s₁.setTop (mkF m 0 #[.val (.int p0), .unset, .unset, .unset] []))
  refine Goes.go (fun t => XS.iloadN X0.here hx rfl (hb hby at_0) rfl ) ?_
  show Goes p e below _ (s₁.setTop (mkF m 1 #[.val (.int p0), .unset, .unset, .unset] [(.int p0)]))
  refine Goes.go (fun t => X0.ldcI hx hown (mvT hZ (hw _ (List.mem_of_getElem? (i := 0) rfl))) rfl (hb hby at_1)) ?_
  show Goes p e below _ (s₁.setTop (mkF m 3 #[.val (.int p0), .unset, .unset, .unset] [(.int (2147483647 : Int32)), (.int p0)]))
  refine Goes.go (fun t => XS.iand X0.here hx rfl (hb hby at_3) rfl) ?_
  show Goes p e below _ (s₁.setTop (mkF m 4 #[.val (.int p0), .unset, .unset, .unset] [(.int (p0 &&& (2147483647 : Int32)))]))
  refine Goes.go (fun t => XS.bipush X0.here hx rfl (hb hby at_4)) ?_
  show Goes p e below _ (s₁.setTop (mkF m 6 #[.val (.int p0), .unset, .unset, .unset] [(.int (13 : Int32)), (.int (p0 &&& (2147483647 : Int32)))]))
  refine Goes.go (fun t => iremM X0 hx rfl (hb hby at_6) rfl (by decide)) ?_
  show Goes p e below _ (s₁.setTop (mkF m 7 #[.val (.int p0), .unset, .unset, .unset] [(.int ((p0 &&& (2147483647 : Int32)) % (13 : Int32)))]))
  refine Goes.go (fun t => XS.istoreN X0.here hx rfl (hb hby at_7) rfl (l' := #[.val (.int p0), .val (.int ((p0 &&& (2147483647 : Int32)) % (13 : Int32))), .unset, .unset]) rfl) ?_
  show Goes p e below _ (s₁.setTop (mkF m 8 #[.val (.int p0), .val (.int ((p0 &&& (2147483647 : Int32)) % (13 : Int32))), .unset, .unset] []))
  refine Goes.go (fun t => XS.iloadN X0.here hx rfl (hb hby at_8) rfl ) ?_
  show Goes p e below _ (s₁.setTop (mkF m 9 #[.val (.int p0), .val (.int ((p0 &&& (2147483647 : Int32)) % (13 : Int32))), .unset, .unset] [(.int ((p0 &&& (2147483647 : Int32)) % (13 : Int32)))]))
  by_cases hc9 : ((p0 &&& (2147483647 : Int32)) % (13 : Int32)) = (0 : Int32)
  · refine Goes.go (fun t => XS.ifNo X0.here hx rfl (hb hby at_9) rfl (Jvm.Free.XT.i0_ne_f hc9)) ?_
    show Goes p e below _ (s₁.setTop (mkF m 12 #[.val (.int p0), .val (.int ((p0 &&& (2147483647 : Int32)) % (13 : Int32))), .unset, .unset] []))
    obtain ⟨T2, X2, e2, st2⟩ := getS2 X0 hx hZ hown (host := "") (Or.inl (hw _ (List.mem_of_getElem? (i := 1) rfl))) Via.refl e0 S_CHILD (g := (mkF m 12 #[.val (.int p0), .val (.int ((p0 &&& (2147483647 : Int32)) % (13 : Int32))), .unset, .unset] [])) rfl (hb hby at_12)
    refine Goes.go st2 ?_
    show Goes p e below _ (T2.setTop (mkF m 15 #[.val (.int p0), .val (.int ((p0 &&& (2147483647 : Int32)) % (13 : Int32))), .unset, .unset] [(.ref w_CHILD)]))
    refine Goes.go (fun t => XS.astoreN X2.here hx rfl (hb hby at_15) rfl rfl (l' := #[.val (.int p0), .val (.int ((p0 &&& (2147483647 : Int32)) % (13 : Int32))), .val (.ref w_CHILD), .unset]) rfl) ?_
    show Goes p e below _ (T2.setTop (mkF m 16 #[.val (.int p0), .val (.int ((p0 &&& (2147483647 : Int32)) % (13 : Int32))), .val (.ref w_CHILD), .unset] []))
    refine Goes.go (fun t => XS.iconst X2.here hx rfl (hb hby at_16)) ?_
    show Goes p e below _ (T2.setTop (mkF m 17 #[.val (.int p0), .val (.int ((p0 &&& (2147483647 : Int32)) % (13 : Int32))), .val (.ref w_CHILD), .unset] [(.int (1 : Int32))]))
    refine Goes.go (fun t => XS.istoreN X2.here hx rfl (hb hby at_17) rfl (l' := #[.val (.int p0), .val (.int ((p0 &&& (2147483647 : Int32)) % (13 : Int32))), .val (.ref w_CHILD), .val (.int (1 : Int32))]) rfl) ?_
    show Goes p e below _ (T2.setTop (mkF m 18 #[.val (.int p0), .val (.int ((p0 &&& (2147483647 : Int32)) % (13 : Int32))), .val (.ref w_CHILD), .val (.int (1 : Int32))] []))
    refine Goes.go (fun t => XS.goto X2.here hx rfl (pc0 := 18) (pc' := 187) rfl (hb hby at_18) (by decide) (by decide)) ?_
    exact j187 T2 X2 e2 w_CHILD (1 : Int32) E_CHILD (own_many_t O_CHILD O_SELF O_PARENT O_ATTRIBUTE O_NAMESPACE (by decide) (by decide) (by decide) (by decide))
  · refine Goes.go (fun t => XS.ifYes X0.here hx rfl (pc0 := 9) (pc' := 21) rfl (hb hby at_9) rfl (Jvm.Free.XT.i0_ne_t hc9) (by decide) (by decide)) ?_
    show Goes p e below _ (s₁.setTop (mkF m 21 #[.val (.int p0), .val (.int ((p0 &&& (2147483647 : Int32)) % (13 : Int32))), .unset, .unset] []))
    refine Goes.go (fun t => XS.iloadN X0.here hx rfl (hb hby at_21) rfl ) ?_
    show Goes p e below _ (s₁.setTop (mkF m 22 #[.val (.int p0), .val (.int ((p0 &&& (2147483647 : Int32)) % (13 : Int32))), .unset, .unset] [(.int ((p0 &&& (2147483647 : Int32)) % (13 : Int32)))]))
    refine Goes.go (fun t => XS.iconst X0.here hx rfl (hb hby at_22)) ?_
    show Goes p e below _ (s₁.setTop (mkF m 23 #[.val (.int p0), .val (.int ((p0 &&& (2147483647 : Int32)) % (13 : Int32))), .unset, .unset] [(.int (1 : Int32)), (.int ((p0 &&& (2147483647 : Int32)) % (13 : Int32)))]))
    by_cases hc23 : ((p0 &&& (2147483647 : Int32)) % (13 : Int32)) = (1 : Int32)
    · refine Goes.go (fun t => XS.icmpNo X0.here hx rfl (hb hby at_23) rfl (Jvm.Free.XT.ii_ne_f hc23)) ?_
      show Goes p e below _ (s₁.setTop (mkF m 26 #[.val (.int p0), .val (.int ((p0 &&& (2147483647 : Int32)) % (13 : Int32))), .unset, .unset] []))
      obtain ⟨T3, X3, e3, st3⟩ := getS2 X0 hx hZ hown (host := "") (Or.inl (hw _ (List.mem_of_getElem? (i := 28) rfl))) Via.refl e0 S_DESCENDANT (g := (mkF m 26 #[.val (.int p0), .val (.int ((p0 &&& (2147483647 : Int32)) % (13 : Int32))), .unset, .unset] [])) rfl (hb hby at_26)
      refine Goes.go st3 ?_
      show Goes p e below _ (T3.setTop (mkF m 29 #[.val (.int p0), .val (.int ((p0 &&& (2147483647 : Int32)) % (13 : Int32))), .unset, .unset] [(.ref w_DESCENDANT)]))
      refine Goes.go (fun t => XS.astoreN X3.here hx rfl (hb hby at_29) rfl rfl (l' := #[.val (.int p0), .val (.int ((p0 &&& (2147483647 : Int32)) % (13 : Int32))), .val (.ref w_DESCENDANT), .unset]) rfl) ?_
      show Goes p e below _ (T3.setTop (mkF m 30 #[.val (.int p0), .val (.int ((p0 &&& (2147483647 : Int32)) % (13 : Int32))), .val (.ref w_DESCENDANT), .unset] []))
      refine Goes.go (fun t => XS.iconst X3.here hx rfl (hb hby at_30)) ?_
      show Goes p e below _ (T3.setTop (mkF m 31 #[.val (.int p0), .val (.int ((p0 &&& (2147483647 : Int32)) % (13 : Int32))), .val (.ref w_DESCENDANT), .unset] [(.int (1 : Int32))]))
      refine Goes.go (fun t => XS.istoreN X3.here hx rfl (hb hby at_31) rfl (l' := #[.val (.int p0), .val (.int ((p0 &&& (2147483647 : Int32)) % (13 : Int32))), .val (.ref w_DESCENDANT), .val (.int (1 : Int32))]) rfl) ?_
      show Goes p e below _ (T3.setTop (mkF m 32 #[.val (.int p0), .val (.int ((p0 &&& (2147483647 : Int32)) % (13 : Int32))), .val (.ref w_DESCENDANT), .val (.int (1 : Int32))] []))
      refine Goes.go (fun t => XS.goto X3.here hx rfl (pc0 := 32) (pc' := 187) rfl (hb hby at_32) (by decide) (by decide)) ?_
      exact j187 T3 X3 e3 w_DESCENDANT (1 : Int32) E_DESCENDANT (own_many_t O_DESCENDANT O_SELF O_PARENT O_ATTRIBUTE O_NAMESPACE (by decide) (by decide) (by decide) (by decide))
    · refine Goes.go (fun t => XS.icmpYes X0.here hx rfl (pc0 := 23) (pc' := 35) rfl (hb hby at_23) rfl (Jvm.Free.XT.ii_ne_t hc23) (by decide) (by decide)) ?_
      show Goes p e below _ (s₁.setTop (mkF m 35 #[.val (.int p0), .val (.int ((p0 &&& (2147483647 : Int32)) % (13 : Int32))), .unset, .unset] []))
      refine Goes.go (fun t => XS.iloadN X0.here hx rfl (hb hby at_35) rfl ) ?_
      show Goes p e below _ (s₁.setTop (mkF m 36 #[.val (.int p0), .val (.int ((p0 &&& (2147483647 : Int32)) % (13 : Int32))), .unset, .unset] [(.int ((p0 &&& (2147483647 : Int32)) % (13 : Int32)))]))
      refine Goes.go (fun t => XS.iconst X0.here hx rfl (hb hby at_36)) ?_
      show Goes p e below _ (s₁.setTop (mkF m 37 #[.val (.int p0), .val (.int ((p0 &&& (2147483647 : Int32)) % (13 : Int32))), .unset, .unset] [(.int (2 : Int32)), (.int ((p0 &&& (2147483647 : Int32)) % (13 : Int32)))]))
      by_cases hc37 : ((p0 &&& (2147483647 : Int32)) % (13 : Int32)) = (2 : Int32)
      · refine Goes.go (fun t => XS.icmpNo X0.here hx rfl (hb hby at_37) rfl (Jvm.Free.XT.ii_ne_f hc37)) ?_
        show Goes p e below _ (s₁.setTop (mkF m 40 #[.val (.int p0), .val (.int ((p0 &&& (2147483647 : Int32)) % (13 : Int32))), .unset, .unset] []))
        obtain ⟨T4, X4, e4, st4⟩ := getS2 X0 hx hZ hown (host := "") (Or.inl (hw _ (List.mem_of_getElem? (i := 25) rfl))) Via.refl e0 S_ATTRIBUTE (g := (mkF m 40 #[.val (.int p0), .val (.int ((p0 &&& (2147483647 : Int32)) % (13 : Int32))), .unset, .unset] [])) rfl (hb hby at_40)
        refine Goes.go st4 ?_
        show Goes p e below _ (T4.setTop (mkF m 43 #[.val (.int p0), .val (.int ((p0 &&& (2147483647 : Int32)) % (13 : Int32))), .unset, .unset] [(.ref w_ATTRIBUTE)]))
        refine Goes.go (fun t => XS.astoreN X4.here hx rfl (hb hby at_43) rfl rfl (l' := #[.val (.int p0), .val (.int ((p0 &&& (2147483647 : Int32)) % (13 : Int32))), .val (.ref w_ATTRIBUTE), .unset]) rfl) ?_
        show Goes p e below _ (T4.setTop (mkF m 44 #[.val (.int p0), .val (.int ((p0 &&& (2147483647 : Int32)) % (13 : Int32))), .val (.ref w_ATTRIBUTE), .unset] []))
        refine Goes.go (fun t => XS.iconst X4.here hx rfl (hb hby at_44)) ?_
        show Goes p e below _ (T4.setTop (mkF m 45 #[.val (.int p0), .val (.int ((p0 &&& (2147483647 : Int32)) % (13 : Int32))), .val (.ref w_ATTRIBUTE), .unset] [(.int (0 : Int32))]))
        refine Goes.go (fun t => XS.istoreN X4.here hx rfl (hb hby at_45) rfl (l' := #[.val (.int p0), .val (.int ((p0 &&& (2147483647 : Int32)) % (13 : Int32))), .val (.ref w_ATTRIBUTE), .val (.int (0 : Int32))]) rfl) ?_
        show Goes p e below _ (T4.setTop (mkF m 46 #[.val (.int p0), .val (.int ((p0 &&& (2147483647 : Int32)) % (13 : Int32))), .val (.ref w_ATTRIBUTE), .val (.int (0 : Int32))] []))
        refine Goes.go (fun t => XS.goto X4.here hx rfl (pc0 := 46) (pc' := 187) rfl (hb hby at_46) (by decide) (by decide)) ?_
        exact j187 T4 X4 e4 w_ATTRIBUTE (0 : Int32) E_ATTRIBUTE (by simp [own_many])
      · refine Goes.go (fun t => XS.icmpYes X0.here hx rfl (pc0 := 37) (pc' := 49) rfl (hb hby at_37) rfl (Jvm.Free.XT.ii_ne_t hc37) (by decide) (by decide)) ?_
        show Goes p e below _ (s₁.setTop (mkF m 49 #[.val (.int p0), .val (.int ((p0 &&& (2147483647 : Int32)) % (13 : Int32))), .unset, .unset] []))
        refine Goes.go (fun t => XS.iloadN X0.here hx rfl (hb hby at_49) rfl ) ?_
        show Goes p e below _ (s₁.setTop (mkF m 50 #[.val (.int p0), .val (.int ((p0 &&& (2147483647 : Int32)) % (13 : Int32))), .unset, .unset] [(.int ((p0 &&& (2147483647 : Int32)) % (13 : Int32)))]))
        refine Goes.go (fun t => XS.iconst X0.here hx rfl (hb hby at_50)) ?_
        show Goes p e below _ (s₁.setTop (mkF m 51 #[.val (.int p0), .val (.int ((p0 &&& (2147483647 : Int32)) % (13 : Int32))), .unset, .unset] [(.int (3 : Int32)), (.int ((p0 &&& (2147483647 : Int32)) % (13 : Int32)))]))
        by_cases hc51 : ((p0 &&& (2147483647 : Int32)) % (13 : Int32)) = (3 : Int32)
        · refine Goes.go (fun t => XS.icmpNo X0.here hx rfl (hb hby at_51) rfl (Jvm.Free.XT.ii_ne_f hc51)) ?_
          show Goes p e below _ (s₁.setTop (mkF m 54 #[.val (.int p0), .val (.int ((p0 &&& (2147483647 : Int32)) % (13 : Int32))), .unset, .unset] []))
          obtain ⟨T5, X5, e5, st5⟩ := getS2 X0 hx hZ hown (host := "") (Or.inl (hw _ (List.mem_of_getElem? (i := 17) rfl))) Via.refl e0 S_SELF (g := (mkF m 54 #[.val (.int p0), .val (.int ((p0 &&& (2147483647 : Int32)) % (13 : Int32))), .unset, .unset] [])) rfl (hb hby at_54)
          refine Goes.go st5 ?_
          show Goes p e below _ (T5.setTop (mkF m 57 #[.val (.int p0), .val (.int ((p0 &&& (2147483647 : Int32)) % (13 : Int32))), .unset, .unset] [(.ref w_SELF)]))
          refine Goes.go (fun t => XS.astoreN X5.here hx rfl (hb hby at_57) rfl rfl (l' := #[.val (.int p0), .val (.int ((p0 &&& (2147483647 : Int32)) % (13 : Int32))), .val (.ref w_SELF), .unset]) rfl) ?_
          show Goes p e below _ (T5.setTop (mkF m 58 #[.val (.int p0), .val (.int ((p0 &&& (2147483647 : Int32)) % (13 : Int32))), .val (.ref w_SELF), .unset] []))
          refine Goes.go (fun t => XS.iconst X5.here hx rfl (hb hby at_58)) ?_
          show Goes p e below _ (T5.setTop (mkF m 59 #[.val (.int p0), .val (.int ((p0 &&& (2147483647 : Int32)) % (13 : Int32))), .val (.ref w_SELF), .unset] [(.int (0 : Int32))]))
          refine Goes.go (fun t => XS.istoreN X5.here hx rfl (hb hby at_59) rfl (l' := #[.val (.int p0), .val (.int ((p0 &&& (2147483647 : Int32)) % (13 : Int32))), .val (.ref w_SELF), .val (.int (0 : Int32))]) rfl) ?_
          show Goes p e below _ (T5.setTop (mkF m 60 #[.val (.int p0), .val (.int ((p0 &&& (2147483647 : Int32)) % (13 : Int32))), .val (.ref w_SELF), .val (.int (0 : Int32))] []))
          refine Goes.go (fun t => XS.goto X5.here hx rfl (pc0 := 60) (pc' := 187) rfl (hb hby at_60) (by decide) (by decide)) ?_
          exact j187 T5 X5 e5 w_SELF (0 : Int32) E_SELF (by simp [own_many])
        · refine Goes.go (fun t => XS.icmpYes X0.here hx rfl (pc0 := 51) (pc' := 63) rfl (hb hby at_51) rfl (Jvm.Free.XT.ii_ne_t hc51) (by decide) (by decide)) ?_
          show Goes p e below _ (s₁.setTop (mkF m 63 #[.val (.int p0), .val (.int ((p0 &&& (2147483647 : Int32)) % (13 : Int32))), .unset, .unset] []))
          refine Goes.go (fun t => XS.iloadN X0.here hx rfl (hb hby at_63) rfl ) ?_
          show Goes p e below _ (s₁.setTop (mkF m 64 #[.val (.int p0), .val (.int ((p0 &&& (2147483647 : Int32)) % (13 : Int32))), .unset, .unset] [(.int ((p0 &&& (2147483647 : Int32)) % (13 : Int32)))]))
          refine Goes.go (fun t => XS.iconst X0.here hx rfl (hb hby at_64)) ?_
          show Goes p e below _ (s₁.setTop (mkF m 65 #[.val (.int p0), .val (.int ((p0 &&& (2147483647 : Int32)) % (13 : Int32))), .unset, .unset] [(.int (4 : Int32)), (.int ((p0 &&& (2147483647 : Int32)) % (13 : Int32)))]))
          by_cases hc65 : ((p0 &&& (2147483647 : Int32)) % (13 : Int32)) = (4 : Int32)
          · refine Goes.go (fun t => XS.icmpNo X0.here hx rfl (hb hby at_65) rfl (Jvm.Free.XT.ii_ne_f hc65)) ?_
            show Goes p e below _ (s₁.setTop (mkF m 68 #[.val (.int p0), .val (.int ((p0 &&& (2147483647 : Int32)) % (13 : Int32))), .unset, .unset] []))
            obtain ⟨T6, X6, e6, st6⟩ := getS2 X0 hx hZ hown (host := "") (Or.inl (hw _ (List.mem_of_getElem? (i := 35) rfl))) Via.refl e0 S_DESCENDANT_OR_SELF (g := (mkF m 68 #[.val (.int p0), .val (.int ((p0 &&& (2147483647 : Int32)) % (13 : Int32))), .unset, .unset] [])) rfl (hb hby at_68)
            refine Goes.go st6 ?_
            show Goes p e below _ (T6.setTop (mkF m 71 #[.val (.int p0), .val (.int ((p0 &&& (2147483647 : Int32)) % (13 : Int32))), .unset, .unset] [(.ref w_DESCENDANT_OR_SELF)]))
            refine Goes.go (fun t => XS.astoreN X6.here hx rfl (hb hby at_71) rfl rfl (l' := #[.val (.int p0), .val (.int ((p0 &&& (2147483647 : Int32)) % (13 : Int32))), .val (.ref w_DESCENDANT_OR_SELF), .unset]) rfl) ?_
            show Goes p e below _ (T6.setTop (mkF m 72 #[.val (.int p0), .val (.int ((p0 &&& (2147483647 : Int32)) % (13 : Int32))), .val (.ref w_DESCENDANT_OR_SELF), .unset] []))
            refine Goes.go (fun t => XS.iconst X6.here hx rfl (hb hby at_72)) ?_
            show Goes p e below _ (T6.setTop (mkF m 73 #[.val (.int p0), .val (.int ((p0 &&& (2147483647 : Int32)) % (13 : Int32))), .val (.ref w_DESCENDANT_OR_SELF), .unset] [(.int (1 : Int32))]))
            refine Goes.go (fun t => XS.istoreN X6.here hx rfl (hb hby at_73) rfl (l' := #[.val (.int p0), .val (.int ((p0 &&& (2147483647 : Int32)) % (13 : Int32))), .val (.ref w_DESCENDANT_OR_SELF), .val (.int (1 : Int32))]) rfl) ?_
            show Goes p e below _ (T6.setTop (mkF m 74 #[.val (.int p0), .val (.int ((p0 &&& (2147483647 : Int32)) % (13 : Int32))), .val (.ref w_DESCENDANT_OR_SELF), .val (.int (1 : Int32))] []))
            refine Goes.go (fun t => XS.goto X6.here hx rfl (pc0 := 74) (pc' := 187) rfl (hb hby at_74) (by decide) (by decide)) ?_
            exact j187 T6 X6 e6 w_DESCENDANT_OR_SELF (1 : Int32) E_DESCENDANT_OR_SELF (own_many_t O_DESCENDANT_OR_SELF O_SELF O_PARENT O_ATTRIBUTE O_NAMESPACE (by decide) (by decide) (by decide) (by decide))
          · refine Goes.go (fun t => XS.icmpYes X0.here hx rfl (pc0 := 65) (pc' := 77) rfl (hb hby at_65) rfl (Jvm.Free.XT.ii_ne_t hc65) (by decide) (by decide)) ?_
            show Goes p e below _ (s₁.setTop (mkF m 77 #[.val (.int p0), .val (.int ((p0 &&& (2147483647 : Int32)) % (13 : Int32))), .unset, .unset] []))
            refine Goes.go (fun t => XS.iloadN X0.here hx rfl (hb hby at_77) rfl ) ?_
            show Goes p e below _ (s₁.setTop (mkF m 78 #[.val (.int p0), .val (.int ((p0 &&& (2147483647 : Int32)) % (13 : Int32))), .unset, .unset] [(.int ((p0 &&& (2147483647 : Int32)) % (13 : Int32)))]))
            refine Goes.go (fun t => XS.iconst X0.here hx rfl (hb hby at_78)) ?_
            show Goes p e below _ (s₁.setTop (mkF m 79 #[.val (.int p0), .val (.int ((p0 &&& (2147483647 : Int32)) % (13 : Int32))), .unset, .unset] [(.int (5 : Int32)), (.int ((p0 &&& (2147483647 : Int32)) % (13 : Int32)))]))
            by_cases hc79 : ((p0 &&& (2147483647 : Int32)) % (13 : Int32)) = (5 : Int32)
            · refine Goes.go (fun t => XS.icmpNo X0.here hx rfl (hb hby at_79) rfl (Jvm.Free.XT.ii_ne_f hc79)) ?_
              show Goes p e below _ (s₁.setTop (mkF m 82 #[.val (.int p0), .val (.int ((p0 &&& (2147483647 : Int32)) % (13 : Int32))), .unset, .unset] []))
              obtain ⟨T7, X7, e7, st7⟩ := getS2 X0 hx hZ hown (host := "") (Or.inl (hw _ (List.mem_of_getElem? (i := 20) rfl))) Via.refl e0 S_FOLLOWING_SIBLING (g := (mkF m 82 #[.val (.int p0), .val (.int ((p0 &&& (2147483647 : Int32)) % (13 : Int32))), .unset, .unset] [])) rfl (hb hby at_82)
              refine Goes.go st7 ?_
              show Goes p e below _ (T7.setTop (mkF m 85 #[.val (.int p0), .val (.int ((p0 &&& (2147483647 : Int32)) % (13 : Int32))), .unset, .unset] [(.ref w_FOLLOWING_SIBLING)]))
              refine Goes.go (fun t => XS.astoreN X7.here hx rfl (hb hby at_85) rfl rfl (l' := #[.val (.int p0), .val (.int ((p0 &&& (2147483647 : Int32)) % (13 : Int32))), .val (.ref w_FOLLOWING_SIBLING), .unset]) rfl) ?_
              show Goes p e below _ (T7.setTop (mkF m 86 #[.val (.int p0), .val (.int ((p0 &&& (2147483647 : Int32)) % (13 : Int32))), .val (.ref w_FOLLOWING_SIBLING), .unset] []))
              refine Goes.go (fun t => XS.iconst X7.here hx rfl (hb hby at_86)) ?_
              show Goes p e below _ (T7.setTop (mkF m 87 #[.val (.int p0), .val (.int ((p0 &&& (2147483647 : Int32)) % (13 : Int32))), .val (.ref w_FOLLOWING_SIBLING), .unset] [(.int (1 : Int32))]))
              refine Goes.go (fun t => XS.istoreN X7.here hx rfl (hb hby at_87) rfl (l' := #[.val (.int p0), .val (.int ((p0 &&& (2147483647 : Int32)) % (13 : Int32))), .val (.ref w_FOLLOWING_SIBLING), .val (.int (1 : Int32))]) rfl) ?_
              show Goes p e below _ (T7.setTop (mkF m 88 #[.val (.int p0), .val (.int ((p0 &&& (2147483647 : Int32)) % (13 : Int32))), .val (.ref w_FOLLOWING_SIBLING), .val (.int (1 : Int32))] []))
              refine Goes.go (fun t => XS.goto X7.here hx rfl (pc0 := 88) (pc' := 187) rfl (hb hby at_88) (by decide) (by decide)) ?_
              exact j187 T7 X7 e7 w_FOLLOWING_SIBLING (1 : Int32) E_FOLLOWING_SIBLING (own_many_t O_FOLLOWING_SIBLING O_SELF O_PARENT O_ATTRIBUTE O_NAMESPACE (by decide) (by decide) (by decide) (by decide))
            · refine Goes.go (fun t => XS.icmpYes X0.here hx rfl (pc0 := 79) (pc' := 91) rfl (hb hby at_79) rfl (Jvm.Free.XT.ii_ne_t hc79) (by decide) (by decide)) ?_
              show Goes p e below _ (s₁.setTop (mkF m 91 #[.val (.int p0), .val (.int ((p0 &&& (2147483647 : Int32)) % (13 : Int32))), .unset, .unset] []))
              refine Goes.go (fun t => XS.iloadN X0.here hx rfl (hb hby at_91) rfl ) ?_
              show Goes p e below _ (s₁.setTop (mkF m 92 #[.val (.int p0), .val (.int ((p0 &&& (2147483647 : Int32)) % (13 : Int32))), .unset, .unset] [(.int ((p0 &&& (2147483647 : Int32)) % (13 : Int32)))]))
              refine Goes.go (fun t => XS.bipush X0.here hx rfl (hb hby at_92)) ?_
              show Goes p e below _ (s₁.setTop (mkF m 94 #[.val (.int p0), .val (.int ((p0 &&& (2147483647 : Int32)) % (13 : Int32))), .unset, .unset] [(.int (6 : Int32)), (.int ((p0 &&& (2147483647 : Int32)) % (13 : Int32)))]))
              by_cases hc94 : ((p0 &&& (2147483647 : Int32)) % (13 : Int32)) = (6 : Int32)
              · refine Goes.go (fun t => XS.icmpNo X0.here hx rfl (hb hby at_94) rfl (Jvm.Free.XT.ii_ne_f hc94)) ?_
                show Goes p e below _ (s₁.setTop (mkF m 97 #[.val (.int p0), .val (.int ((p0 &&& (2147483647 : Int32)) % (13 : Int32))), .unset, .unset] []))
                obtain ⟨T8, X8, e8, st8⟩ := getS2 X0 hx hZ hown (host := "") (Or.inl (hw _ (List.mem_of_getElem? (i := 18) rfl))) Via.refl e0 S_FOLLOWING (g := (mkF m 97 #[.val (.int p0), .val (.int ((p0 &&& (2147483647 : Int32)) % (13 : Int32))), .unset, .unset] [])) rfl (hb hby at_97)
                refine Goes.go st8 ?_
                show Goes p e below _ (T8.setTop (mkF m 100 #[.val (.int p0), .val (.int ((p0 &&& (2147483647 : Int32)) % (13 : Int32))), .unset, .unset] [(.ref w_FOLLOWING)]))
                refine Goes.go (fun t => XS.astoreN X8.here hx rfl (hb hby at_100) rfl rfl (l' := #[.val (.int p0), .val (.int ((p0 &&& (2147483647 : Int32)) % (13 : Int32))), .val (.ref w_FOLLOWING), .unset]) rfl) ?_
                show Goes p e below _ (T8.setTop (mkF m 101 #[.val (.int p0), .val (.int ((p0 &&& (2147483647 : Int32)) % (13 : Int32))), .val (.ref w_FOLLOWING), .unset] []))
                refine Goes.go (fun t => XS.iconst X8.here hx rfl (hb hby at_101)) ?_
                show Goes p e below _ (T8.setTop (mkF m 102 #[.val (.int p0), .val (.int ((p0 &&& (2147483647 : Int32)) % (13 : Int32))), .val (.ref w_FOLLOWING), .unset] [(.int (1 : Int32))]))
                refine Goes.go (fun t => XS.istoreN X8.here hx rfl (hb hby at_102) rfl (l' := #[.val (.int p0), .val (.int ((p0 &&& (2147483647 : Int32)) % (13 : Int32))), .val (.ref w_FOLLOWING), .val (.int (1 : Int32))]) rfl) ?_
                show Goes p e below _ (T8.setTop (mkF m 103 #[.val (.int p0), .val (.int ((p0 &&& (2147483647 : Int32)) % (13 : Int32))), .val (.ref w_FOLLOWING), .val (.int (1 : Int32))] []))
                refine Goes.go (fun t => XS.goto X8.here hx rfl (pc0 := 103) (pc' := 187) rfl (hb hby at_103) (by decide) (by decide)) ?_
                exact j187 T8 X8 e8 w_FOLLOWING (1 : Int32) E_FOLLOWING (own_many_t O_FOLLOWING O_SELF O_PARENT O_ATTRIBUTE O_NAMESPACE (by decide) (by decide) (by decide) (by decide))
              · refine Goes.go (fun t => XS.icmpYes X0.here hx rfl (pc0 := 94) (pc' := 106) rfl (hb hby at_94) rfl (Jvm.Free.XT.ii_ne_t hc94) (by decide) (by decide)) ?_
                show Goes p e below _ (s₁.setTop (mkF m 106 #[.val (.int p0), .val (.int ((p0 &&& (2147483647 : Int32)) % (13 : Int32))), .unset, .unset] []))
                refine Goes.go (fun t => XS.iloadN X0.here hx rfl (hb hby at_106) rfl ) ?_
                show Goes p e below _ (s₁.setTop (mkF m 107 #[.val (.int p0), .val (.int ((p0 &&& (2147483647 : Int32)) % (13 : Int32))), .unset, .unset] [(.int ((p0 &&& (2147483647 : Int32)) % (13 : Int32)))]))
                refine Goes.go (fun t => XS.bipush X0.here hx rfl (hb hby at_107)) ?_
                show Goes p e below _ (s₁.setTop (mkF m 109 #[.val (.int p0), .val (.int ((p0 &&& (2147483647 : Int32)) % (13 : Int32))), .unset, .unset] [(.int (7 : Int32)), (.int ((p0 &&& (2147483647 : Int32)) % (13 : Int32)))]))
                by_cases hc109 : ((p0 &&& (2147483647 : Int32)) % (13 : Int32)) = (7 : Int32)
                · refine Goes.go (fun t => XS.icmpNo X0.here hx rfl (hb hby at_109) rfl (Jvm.Free.XT.ii_ne_f hc109)) ?_
                  show Goes p e below _ (s₁.setTop (mkF m 112 #[.val (.int p0), .val (.int ((p0 &&& (2147483647 : Int32)) % (13 : Int32))), .unset, .unset] []))
                  obtain ⟨T9, X9, e9, st9⟩ := getS2 X0 hx hZ hown (host := "") (Or.inl (hw _ (List.mem_of_getElem? (i := 22) rfl))) Via.refl e0 S_NAMESPACE (g := (mkF m 112 #[.val (.int p0), .val (.int ((p0 &&& (2147483647 : Int32)) % (13 : Int32))), .unset, .unset] [])) rfl (hb hby at_112)
                  refine Goes.go st9 ?_
                  show Goes p e below _ (T9.setTop (mkF m 115 #[.val (.int p0), .val (.int ((p0 &&& (2147483647 : Int32)) % (13 : Int32))), .unset, .unset] [(.ref w_NAMESPACE)]))
                  refine Goes.go (fun t => XS.astoreN X9.here hx rfl (hb hby at_115) rfl rfl (l' := #[.val (.int p0), .val (.int ((p0 &&& (2147483647 : Int32)) % (13 : Int32))), .val (.ref w_NAMESPACE), .unset]) rfl) ?_
                  show Goes p e below _ (T9.setTop (mkF m 116 #[.val (.int p0), .val (.int ((p0 &&& (2147483647 : Int32)) % (13 : Int32))), .val (.ref w_NAMESPACE), .unset] []))
                  refine Goes.go (fun t => XS.iconst X9.here hx rfl (hb hby at_116)) ?_
                  show Goes p e below _ (T9.setTop (mkF m 117 #[.val (.int p0), .val (.int ((p0 &&& (2147483647 : Int32)) % (13 : Int32))), .val (.ref w_NAMESPACE), .unset] [(.int (0 : Int32))]))
                  refine Goes.go (fun t => XS.istoreN X9.here hx rfl (hb hby at_117) rfl (l' := #[.val (.int p0), .val (.int ((p0 &&& (2147483647 : Int32)) % (13 : Int32))), .val (.ref w_NAMESPACE), .val (.int (0 : Int32))]) rfl) ?_
                  show Goes p e below _ (T9.setTop (mkF m 118 #[.val (.int p0), .val (.int ((p0 &&& (2147483647 : Int32)) % (13 : Int32))), .val (.ref w_NAMESPACE), .val (.int (0 : Int32))] []))
                  refine Goes.go (fun t => XS.goto X9.here hx rfl (pc0 := 118) (pc' := 187) rfl (hb hby at_118) (by decide) (by decide)) ?_
                  exact j187 T9 X9 e9 w_NAMESPACE (0 : Int32) E_NAMESPACE (by simp [own_many])
                · refine Goes.go (fun t => XS.icmpYes X0.here hx rfl (pc0 := 109) (pc' := 121) rfl (hb hby at_109) rfl (Jvm.Free.XT.ii_ne_t hc109) (by decide) (by decide)) ?_
                  show Goes p e below _ (s₁.setTop (mkF m 121 #[.val (.int p0), .val (.int ((p0 &&& (2147483647 : Int32)) % (13 : Int32))), .unset, .unset] []))
                  refine Goes.go (fun t => XS.iloadN X0.here hx rfl (hb hby at_121) rfl ) ?_
                  show Goes p e below _ (s₁.setTop (mkF m 122 #[.val (.int p0), .val (.int ((p0 &&& (2147483647 : Int32)) % (13 : Int32))), .unset, .unset] [(.int ((p0 &&& (2147483647 : Int32)) % (13 : Int32)))]))
                  refine Goes.go (fun t => XS.bipush X0.here hx rfl (hb hby at_122)) ?_
                  show Goes p e below _ (s₁.setTop (mkF m 124 #[.val (.int p0), .val (.int ((p0 &&& (2147483647 : Int32)) % (13 : Int32))), .unset, .unset] [(.int (8 : Int32)), (.int ((p0 &&& (2147483647 : Int32)) % (13 : Int32)))]))
                  by_cases hc124 : ((p0 &&& (2147483647 : Int32)) % (13 : Int32)) = (8 : Int32)
                  · refine Goes.go (fun t => XS.icmpNo X0.here hx rfl (hb hby at_124) rfl (Jvm.Free.XT.ii_ne_f hc124)) ?_
                    show Goes p e below _ (s₁.setTop (mkF m 127 #[.val (.int p0), .val (.int ((p0 &&& (2147483647 : Int32)) % (13 : Int32))), .unset, .unset] []))
                    obtain ⟨T10, X10, e10, st10⟩ := getS2 X0 hx hZ hown (host := "") (Or.inl (hw _ (List.mem_of_getElem? (i := 30) rfl))) Via.refl e0 S_PARENT (g := (mkF m 127 #[.val (.int p0), .val (.int ((p0 &&& (2147483647 : Int32)) % (13 : Int32))), .unset, .unset] [])) rfl (hb hby at_127)
                    refine Goes.go st10 ?_
                    show Goes p e below _ (T10.setTop (mkF m 130 #[.val (.int p0), .val (.int ((p0 &&& (2147483647 : Int32)) % (13 : Int32))), .unset, .unset] [(.ref w_PARENT)]))
                    refine Goes.go (fun t => XS.astoreN X10.here hx rfl (hb hby at_130) rfl rfl (l' := #[.val (.int p0), .val (.int ((p0 &&& (2147483647 : Int32)) % (13 : Int32))), .val (.ref w_PARENT), .unset]) rfl) ?_
                    show Goes p e below _ (T10.setTop (mkF m 131 #[.val (.int p0), .val (.int ((p0 &&& (2147483647 : Int32)) % (13 : Int32))), .val (.ref w_PARENT), .unset] []))
                    refine Goes.go (fun t => XS.iconst X10.here hx rfl (hb hby at_131)) ?_
                    show Goes p e below _ (T10.setTop (mkF m 132 #[.val (.int p0), .val (.int ((p0 &&& (2147483647 : Int32)) % (13 : Int32))), .val (.ref w_PARENT), .unset] [(.int (0 : Int32))]))
                    refine Goes.go (fun t => XS.istoreN X10.here hx rfl (hb hby at_132) rfl (l' := #[.val (.int p0), .val (.int ((p0 &&& (2147483647 : Int32)) % (13 : Int32))), .val (.ref w_PARENT), .val (.int (0 : Int32))]) rfl) ?_
                    show Goes p e below _ (T10.setTop (mkF m 133 #[.val (.int p0), .val (.int ((p0 &&& (2147483647 : Int32)) % (13 : Int32))), .val (.ref w_PARENT), .val (.int (0 : Int32))] []))
                    refine Goes.go (fun t => XS.goto X10.here hx rfl (pc0 := 133) (pc' := 187) rfl (hb hby at_133) (by decide) (by decide)) ?_
                    exact j187 T10 X10 e10 w_PARENT (0 : Int32) E_PARENT (by simp [own_many])
                  · refine Goes.go (fun t => XS.icmpYes X0.here hx rfl (pc0 := 124) (pc' := 136) rfl (hb hby at_124) rfl (Jvm.Free.XT.ii_ne_t hc124) (by decide) (by decide)) ?_
                    show Goes p e below _ (s₁.setTop (mkF m 136 #[.val (.int p0), .val (.int ((p0 &&& (2147483647 : Int32)) % (13 : Int32))), .unset, .unset] []))
                    refine Goes.go (fun t => XS.iloadN X0.here hx rfl (hb hby at_136) rfl ) ?_
                    show Goes p e below _ (s₁.setTop (mkF m 137 #[.val (.int p0), .val (.int ((p0 &&& (2147483647 : Int32)) % (13 : Int32))), .unset, .unset] [(.int ((p0 &&& (2147483647 : Int32)) % (13 : Int32)))]))
                    refine Goes.go (fun t => XS.bipush X0.here hx rfl (hb hby at_137)) ?_
                    show Goes p e below _ (s₁.setTop (mkF m 139 #[.val (.int p0), .val (.int ((p0 &&& (2147483647 : Int32)) % (13 : Int32))), .unset, .unset] [(.int (9 : Int32)), (.int ((p0 &&& (2147483647 : Int32)) % (13 : Int32)))]))
                    by_cases hc139 : ((p0 &&& (2147483647 : Int32)) % (13 : Int32)) = (9 : Int32)
                    · refine Goes.go (fun t => XS.icmpNo X0.here hx rfl (hb hby at_139) rfl (Jvm.Free.XT.ii_ne_f hc139)) ?_
                      show Goes p e below _ (s₁.setTop (mkF m 142 #[.val (.int p0), .val (.int ((p0 &&& (2147483647 : Int32)) % (13 : Int32))), .unset, .unset] []))
                      obtain ⟨T11, X11, e11, st11⟩ := getS2 X0 hx hZ hown (host := "") (Or.inl (hw _ (List.mem_of_getElem? (i := 23) rfl))) Via.refl e0 S_ANCESTOR (g := (mkF m 142 #[.val (.int p0), .val (.int ((p0 &&& (2147483647 : Int32)) % (13 : Int32))), .unset, .unset] [])) rfl (hb hby at_142)
                      refine Goes.go st11 ?_
                      show Goes p e below _ (T11.setTop (mkF m 145 #[.val (.int p0), .val (.int ((p0 &&& (2147483647 : Int32)) % (13 : Int32))), .unset, .unset] [(.ref w_ANCESTOR)]))
                      refine Goes.go (fun t => XS.astoreN X11.here hx rfl (hb hby at_145) rfl rfl (l' := #[.val (.int p0), .val (.int ((p0 &&& (2147483647 : Int32)) % (13 : Int32))), .val (.ref w_ANCESTOR), .unset]) rfl) ?_
                      show Goes p e below _ (T11.setTop (mkF m 146 #[.val (.int p0), .val (.int ((p0 &&& (2147483647 : Int32)) % (13 : Int32))), .val (.ref w_ANCESTOR), .unset] []))
                      refine Goes.go (fun t => XS.iconst X11.here hx rfl (hb hby at_146)) ?_
                      show Goes p e below _ (T11.setTop (mkF m 147 #[.val (.int p0), .val (.int ((p0 &&& (2147483647 : Int32)) % (13 : Int32))), .val (.ref w_ANCESTOR), .unset] [(.int (1 : Int32))]))
                      refine Goes.go (fun t => XS.istoreN X11.here hx rfl (hb hby at_147) rfl (l' := #[.val (.int p0), .val (.int ((p0 &&& (2147483647 : Int32)) % (13 : Int32))), .val (.ref w_ANCESTOR), .val (.int (1 : Int32))]) rfl) ?_
                      show Goes p e below _ (T11.setTop (mkF m 148 #[.val (.int p0), .val (.int ((p0 &&& (2147483647 : Int32)) % (13 : Int32))), .val (.ref w_ANCESTOR), .val (.int (1 : Int32))] []))
                      refine Goes.go (fun t => XS.goto X11.here hx rfl (pc0 := 148) (pc' := 187) rfl (hb hby at_148) (by decide) (by decide)) ?_
                      exact j187 T11 X11 e11 w_ANCESTOR (1 : Int32) E_ANCESTOR (own_many_t O_ANCESTOR O_SELF O_PARENT O_ATTRIBUTE O_NAMESPACE (by decide) (by decide) (by decide) (by decide))
                    · refine Goes.go (fun t => XS.icmpYes X0.here hx rfl (pc0 := 139) (pc' := 151) rfl (hb hby at_139) rfl (Jvm.Free.XT.ii_ne_t hc139) (by decide) (by decide)) ?_
                      show Goes p e below _ (s₁.setTop (mkF m 151 #[.val (.int p0), .val (.int ((p0 &&& (2147483647 : Int32)) % (13 : Int32))), .unset, .unset] []))
                      refine Goes.go (fun t => XS.iloadN X0.here hx rfl (hb hby at_151) rfl ) ?_
                      show Goes p e below _ (s₁.setTop (mkF m 152 #[.val (.int p0), .val (.int ((p0 &&& (2147483647 : Int32)) % (13 : Int32))), .unset, .unset] [(.int ((p0 &&& (2147483647 : Int32)) % (13 : Int32)))]))
                      refine Goes.go (fun t => XS.bipush X0.here hx rfl (hb hby at_152)) ?_
                      show Goes p e below _ (s₁.setTop (mkF m 154 #[.val (.int p0), .val (.int ((p0 &&& (2147483647 : Int32)) % (13 : Int32))), .unset, .unset] [(.int (10 : Int32)), (.int ((p0 &&& (2147483647 : Int32)) % (13 : Int32)))]))
                      by_cases hc154 : ((p0 &&& (2147483647 : Int32)) % (13 : Int32)) = (10 : Int32)
                      · refine Goes.go (fun t => XS.icmpNo X0.here hx rfl (hb hby at_154) rfl (Jvm.Free.XT.ii_ne_f hc154)) ?_
                        show Goes p e below _ (s₁.setTop (mkF m 157 #[.val (.int p0), .val (.int ((p0 &&& (2147483647 : Int32)) % (13 : Int32))), .unset, .unset] []))
                        obtain ⟨T12, X12, e12, st12⟩ := getS2 X0 hx hZ hown (host := "") (Or.inl (hw _ (List.mem_of_getElem? (i := 31) rfl))) Via.refl e0 S_PRECEDING_SIBLING (g := (mkF m 157 #[.val (.int p0), .val (.int ((p0 &&& (2147483647 : Int32)) % (13 : Int32))), .unset, .unset] [])) rfl (hb hby at_157)
                        refine Goes.go st12 ?_
                        show Goes p e below _ (T12.setTop (mkF m 160 #[.val (.int p0), .val (.int ((p0 &&& (2147483647 : Int32)) % (13 : Int32))), .unset, .unset] [(.ref w_PRECEDING_SIBLING)]))
                        refine Goes.go (fun t => XS.astoreN X12.here hx rfl (hb hby at_160) rfl rfl (l' := #[.val (.int p0), .val (.int ((p0 &&& (2147483647 : Int32)) % (13 : Int32))), .val (.ref w_PRECEDING_SIBLING), .unset]) rfl) ?_
                        show Goes p e below _ (T12.setTop (mkF m 161 #[.val (.int p0), .val (.int ((p0 &&& (2147483647 : Int32)) % (13 : Int32))), .val (.ref w_PRECEDING_SIBLING), .unset] []))
                        refine Goes.go (fun t => XS.iconst X12.here hx rfl (hb hby at_161)) ?_
                        show Goes p e below _ (T12.setTop (mkF m 162 #[.val (.int p0), .val (.int ((p0 &&& (2147483647 : Int32)) % (13 : Int32))), .val (.ref w_PRECEDING_SIBLING), .unset] [(.int (1 : Int32))]))
                        refine Goes.go (fun t => XS.istoreN X12.here hx rfl (hb hby at_162) rfl (l' := #[.val (.int p0), .val (.int ((p0 &&& (2147483647 : Int32)) % (13 : Int32))), .val (.ref w_PRECEDING_SIBLING), .val (.int (1 : Int32))]) rfl) ?_
                        show Goes p e below _ (T12.setTop (mkF m 163 #[.val (.int p0), .val (.int ((p0 &&& (2147483647 : Int32)) % (13 : Int32))), .val (.ref w_PRECEDING_SIBLING), .val (.int (1 : Int32))] []))
                        refine Goes.go (fun t => XS.goto X12.here hx rfl (pc0 := 163) (pc' := 187) rfl (hb hby at_163) (by decide) (by decide)) ?_
                        exact j187 T12 X12 e12 w_PRECEDING_SIBLING (1 : Int32) E_PRECEDING_SIBLING (own_many_t O_PRECEDING_SIBLING O_SELF O_PARENT O_ATTRIBUTE O_NAMESPACE (by decide) (by decide) (by decide) (by decide))
                      · refine Goes.go (fun t => XS.icmpYes X0.here hx rfl (pc0 := 154) (pc' := 166) rfl (hb hby at_154) rfl (Jvm.Free.XT.ii_ne_t hc154) (by decide) (by decide)) ?_
                        show Goes p e below _ (s₁.setTop (mkF m 166 #[.val (.int p0), .val (.int ((p0 &&& (2147483647 : Int32)) % (13 : Int32))), .unset, .unset] []))
                        refine Goes.go (fun t => XS.iloadN X0.here hx rfl (hb hby at_166) rfl ) ?_
                        show Goes p e below _ (s₁.setTop (mkF m 167 #[.val (.int p0), .val (.int ((p0 &&& (2147483647 : Int32)) % (13 : Int32))), .unset, .unset] [(.int ((p0 &&& (2147483647 : Int32)) % (13 : Int32)))]))
                        refine Goes.go (fun t => XS.bipush X0.here hx rfl (hb hby at_167)) ?_
                        show Goes p e below _ (s₁.setTop (mkF m 169 #[.val (.int p0), .val (.int ((p0 &&& (2147483647 : Int32)) % (13 : Int32))), .unset, .unset] [(.int (11 : Int32)), (.int ((p0 &&& (2147483647 : Int32)) % (13 : Int32)))]))
                        by_cases hc169 : ((p0 &&& (2147483647 : Int32)) % (13 : Int32)) = (11 : Int32)
                        · refine Goes.go (fun t => XS.icmpNo X0.here hx rfl (hb hby at_169) rfl (Jvm.Free.XT.ii_ne_f hc169)) ?_
                          show Goes p e below _ (s₁.setTop (mkF m 172 #[.val (.int p0), .val (.int ((p0 &&& (2147483647 : Int32)) % (13 : Int32))), .unset, .unset] []))
                          obtain ⟨T13, X13, e13, st13⟩ := getS2 X0 hx hZ hown (host := "") (Or.inl (hw _ (List.mem_of_getElem? (i := 26) rfl))) Via.refl e0 S_PRECEDING (g := (mkF m 172 #[.val (.int p0), .val (.int ((p0 &&& (2147483647 : Int32)) % (13 : Int32))), .unset, .unset] [])) rfl (hb hby at_172)
                          refine Goes.go st13 ?_
                          show Goes p e below _ (T13.setTop (mkF m 175 #[.val (.int p0), .val (.int ((p0 &&& (2147483647 : Int32)) % (13 : Int32))), .unset, .unset] [(.ref w_PRECEDING)]))
                          refine Goes.go (fun t => XS.astoreN X13.here hx rfl (hb hby at_175) rfl rfl (l' := #[.val (.int p0), .val (.int ((p0 &&& (2147483647 : Int32)) % (13 : Int32))), .val (.ref w_PRECEDING), .unset]) rfl) ?_
                          show Goes p e below _ (T13.setTop (mkF m 176 #[.val (.int p0), .val (.int ((p0 &&& (2147483647 : Int32)) % (13 : Int32))), .val (.ref w_PRECEDING), .unset] []))
                          refine Goes.go (fun t => XS.iconst X13.here hx rfl (hb hby at_176)) ?_
                          show Goes p e below _ (T13.setTop (mkF m 177 #[.val (.int p0), .val (.int ((p0 &&& (2147483647 : Int32)) % (13 : Int32))), .val (.ref w_PRECEDING), .unset] [(.int (1 : Int32))]))
                          refine Goes.go (fun t => XS.istoreN X13.here hx rfl (hb hby at_177) rfl (l' := #[.val (.int p0), .val (.int ((p0 &&& (2147483647 : Int32)) % (13 : Int32))), .val (.ref w_PRECEDING), .val (.int (1 : Int32))]) rfl) ?_
                          show Goes p e below _ (T13.setTop (mkF m 178 #[.val (.int p0), .val (.int ((p0 &&& (2147483647 : Int32)) % (13 : Int32))), .val (.ref w_PRECEDING), .val (.int (1 : Int32))] []))
                          refine Goes.go (fun t => XS.goto X13.here hx rfl (pc0 := 178) (pc' := 187) rfl (hb hby at_178) (by decide) (by decide)) ?_
                          exact j187 T13 X13 e13 w_PRECEDING (1 : Int32) E_PRECEDING (own_many_t O_PRECEDING O_SELF O_PARENT O_ATTRIBUTE O_NAMESPACE (by decide) (by decide) (by decide) (by decide))
                        · refine Goes.go (fun t => XS.icmpYes X0.here hx rfl (pc0 := 169) (pc' := 181) rfl (hb hby at_169) rfl (Jvm.Free.XT.ii_ne_t hc169) (by decide) (by decide)) ?_
                          show Goes p e below _ (s₁.setTop (mkF m 181 #[.val (.int p0), .val (.int ((p0 &&& (2147483647 : Int32)) % (13 : Int32))), .unset, .unset] []))
                          obtain ⟨T14, X14, e14, st14⟩ := getS2 X0 hx hZ hown (host := "") (Or.inl (hw _ (List.mem_of_getElem? (i := 33) rfl))) Via.refl e0 S_ANCESTOR_OR_SELF (g := (mkF m 181 #[.val (.int p0), .val (.int ((p0 &&& (2147483647 : Int32)) % (13 : Int32))), .unset, .unset] [])) rfl (hb hby at_181)
                          refine Goes.go st14 ?_
                          show Goes p e below _ (T14.setTop (mkF m 184 #[.val (.int p0), .val (.int ((p0 &&& (2147483647 : Int32)) % (13 : Int32))), .unset, .unset] [(.ref w_ANCESTOR_OR_SELF)]))
                          refine Goes.go (fun t => XS.astoreN X14.here hx rfl (hb hby at_184) rfl rfl (l' := #[.val (.int p0), .val (.int ((p0 &&& (2147483647 : Int32)) % (13 : Int32))), .val (.ref w_ANCESTOR_OR_SELF), .unset]) rfl) ?_
                          show Goes p e below _ (T14.setTop (mkF m 185 #[.val (.int p0), .val (.int ((p0 &&& (2147483647 : Int32)) % (13 : Int32))), .val (.ref w_ANCESTOR_OR_SELF), .unset] []))
                          refine Goes.go (fun t => XS.iconst X14.here hx rfl (hb hby at_185)) ?_
                          show Goes p e below _ (T14.setTop (mkF m 186 #[.val (.int p0), .val (.int ((p0 &&& (2147483647 : Int32)) % (13 : Int32))), .val (.ref w_ANCESTOR_OR_SELF), .unset] [(.int (1 : Int32))]))
                          refine Goes.go (fun t => XS.istoreN X14.here hx rfl (hb hby at_186) rfl (l' := #[.val (.int p0), .val (.int ((p0 &&& (2147483647 : Int32)) % (13 : Int32))), .val (.ref w_ANCESTOR_OR_SELF), .val (.int (1 : Int32))]) rfl) ?_
                          exact j187 T14 X14 e14 w_ANCESTOR_OR_SELF (1 : Int32) E_ANCESTOR_OR_SELF (own_many_t O_ANCESTOR_OR_SELF O_SELF O_PARENT O_ATTRIBUTE O_NAMESPACE (by decide) (by decide) (by decide) (by decide))
set_option maxRecDepth 65536 in
set_option maxHeartbeats 40000000 in
theorem comes_1 {Post : Tables → Env → Array Value → State → Outcome → State → Prop} (hpost : ∀ tb e args s v u, (limb_1_1.after args s (.returned v) u = true ∧ limb_1_2.after args s (.returned v) u = true ∧ True) → FrameEnd s (.returned v) u (Jvm.fieldLocs frame_1_writes args s ++ Jvm.arrayLocs frame_1_arrays args s ++ Jvm.staticLocs frame_1_statics s) 0 0 → Post tb e args s (.returned v) u) :
    ArmFor flags0 classFile x code maxLocals ret World_1 tables_1 room_1 Calls_1 rest_1 Pre_1 Post := by
  intro l hfl _ _ p e ha hc hk s m args below hf hA hF happ hP
  obtain ⟨hcalls, hrest, hpre⟩ := hP
  obtain ⟨-, -, -, hnamed, -, -, -, hat⟩ := (Spec.applies_iff hf).mp happ
  obtain ⟨hg, hn⟩ := and_e (Cond.before_iff.mp (show (Jvm.Cond.and given_1 narrow_1).before args s = true from hpre))
  obtain ⟨gc, gv0⟩ := and_e hg
  obtain ⟨w0, rfl⟩ : ∃ w0 : Value, args = #[w0] := by
    have hs : args.size = 1 := by simpa [Cond.value, given_1] using gc
    obtain ⟨L⟩ := args
    match L, hs with
    | [w0], _ => exact ⟨w0, rfl⟩
  have hw := fun d (hd : d ∈ tables_1) => atoms_spec (ws := Jvm.Cond.code x code maxLocals ret :: tables_1) hat d (List.mem_cons_of_mem _ hd)
  have hfit : Fit s := fun {y c} hc i hi => by
    obtain ⟨ha, rfl⟩ := Array.getElem?_eq_some_iff.mp hc
    have q := List.all_eq_true.mp ((Array.all_eq_true_iff_forall_mem.mp hF) _ (Array.getElem_mem ha)) i (List.mem_range.mpr hi)
    simpa [Array.getElem?_eq_getElem hi] using q
  obtain ⟨i0, ei0⟩ := is_v gv0
  obtain rfl : w0 = (.int i0) := Option.some.inj ei0
  obtain ⟨n1a, n1b⟩ := and_e hn
  obtain ⟨n2a, n2b⟩ := and_e n1b
  obtain ⟨n3a, n3b⟩ := and_e n2b
  obtain ⟨n4a, n4b⟩ := and_e n3b
  obtain ⟨n5a, n5b⟩ := and_e n4b
  obtain ⟨n6a, n6b⟩ := and_e n5b
  obtain ⟨n7a, n7b⟩ := and_e n6b
  obtain ⟨n8a, n8b⟩ := and_e n7b
  obtain ⟨n9a, n9b⟩ := and_e n8b
  obtain ⟨n10a, n10b⟩ := and_e n9b
  obtain ⟨n11a, n11b⟩ := and_e n10b
  obtain ⟨n12a, n12b⟩ := and_e n11b
  obtain ⟨n13a, n13b⟩ := and_e n12b
  obtain ⟨n14a, n14b⟩ := and_e n13b
  obtain ⟨n15a, n15b⟩ := and_e n14b
  obtain ⟨n16a, n16b⟩ := and_e n15b
  obtain ⟨n17a, n17b⟩ := and_e n16b
  obtain ⟨n18a, n18b⟩ := and_e n17b
  obtain ⟨n19a, n19b⟩ := and_e n18b
  obtain ⟨n20a, n20b⟩ := and_e n19b
  obtain ⟨n21a, n21b⟩ := and_e n20b
  obtain ⟨n22a, n22b⟩ := and_e n21b
  obtain ⟨n23a, n23b⟩ := and_e n22b
  obtain ⟨n24a, n24b⟩ := and_e n23b
  obtain ⟨n25a, n25b⟩ := and_e n24b
  obtain ⟨v_CHILD, t_CHILD⟩ := exa_v n1a
  obtain ⟨v_DESCENDANT, t_DESCENDANT⟩ := exa_v n19a
  obtain ⟨v_ATTRIBUTE, t_ATTRIBUTE⟩ := exa_v n7a
  obtain ⟨v_SELF, t_SELF⟩ := exa_v n2a
  obtain ⟨v_DESCENDANT_OR_SELF, t_DESCENDANT_OR_SELF⟩ := exa_v n25a
  obtain ⟨v_FOLLOWING_SIBLING, t_FOLLOWING_SIBLING⟩ := exa_v n13a
  obtain ⟨v_FOLLOWING, t_FOLLOWING⟩ := exa_v n11a
  obtain ⟨v_NAMESPACE, t_NAMESPACE⟩ := exa_v n9a
  obtain ⟨v_PARENT, t_PARENT⟩ := exa_v n5a
  obtain ⟨v_ANCESTOR, t_ANCESTOR⟩ := exa_v n15a
  obtain ⟨v_PRECEDING_SIBLING, t_PRECEDING_SIBLING⟩ := exa_v n21a
  obtain ⟨v_PRECEDING, t_PRECEDING⟩ := exa_v n17a
  obtain ⟨v_ANCESTOR_OR_SELF, t_ANCESTOR_OR_SELF⟩ := exa_v n23a
  obtain ⟨n, o, h1, h2, h3, _, L, rfl, ⟨rfl, N⟩, hq⟩ := rm0 l s _ hw tables_1 i0 v_CHILD v_DESCENDANT v_ATTRIBUTE v_SELF v_DESCENDANT_OR_SELF v_FOLLOWING_SIBLING v_FOLLOWING v_NAMESPACE v_PARENT v_ANCESTOR v_PRECEDING_SIBLING v_PRECEDING v_ANCESTOR_OR_SELF (fun a => s.fieldOf? a "java/lang/Enum" "ordinal" "I") s.heap s.heap.size (Nat.le_refl _) (Sta.start t_CHILD (Or.inr ⟨(hw _ (List.mem_of_getElem? (i := 2) rfl)), (hw _ (List.mem_of_getElem? (i := 3) rfl))⟩)) (Sta.start t_DESCENDANT (Or.inr ⟨(hw _ (List.mem_of_getElem? (i := 2) rfl)), (hw _ (List.mem_of_getElem? (i := 29) rfl))⟩)) (Sta.start t_ATTRIBUTE (Or.inr ⟨(hw _ (List.mem_of_getElem? (i := 2) rfl)), (hw _ (List.mem_of_getElem? (i := 14) rfl))⟩)) (Sta.start t_SELF (Or.inr ⟨(hw _ (List.mem_of_getElem? (i := 2) rfl)), (hw _ (List.mem_of_getElem? (i := 10) rfl))⟩)) (Sta.start t_DESCENDANT_OR_SELF (Or.inr ⟨(hw _ (List.mem_of_getElem? (i := 2) rfl)), (hw _ (List.mem_of_getElem? (i := 36) rfl))⟩)) (Sta.start t_FOLLOWING_SIBLING (Or.inr ⟨(hw _ (List.mem_of_getElem? (i := 2) rfl)), (hw _ (List.mem_of_getElem? (i := 21) rfl))⟩)) (Sta.start t_FOLLOWING (Or.inr ⟨(hw _ (List.mem_of_getElem? (i := 2) rfl)), (hw _ (List.mem_of_getElem? (i := 19) rfl))⟩)) (Sta.start t_NAMESPACE (Or.inr ⟨(hw _ (List.mem_of_getElem? (i := 2) rfl)), (hw _ (List.mem_of_getElem? (i := 16) rfl))⟩)) (Sta.start t_PARENT (Or.inr ⟨(hw _ (List.mem_of_getElem? (i := 2) rfl)), (hw _ (List.mem_of_getElem? (i := 12) rfl))⟩)) (Sta.start t_ANCESTOR (Or.inr ⟨(hw _ (List.mem_of_getElem? (i := 2) rfl)), (hw _ (List.mem_of_getElem? (i := 24) rfl))⟩)) (Sta.start t_PRECEDING_SIBLING (Or.inr ⟨(hw _ (List.mem_of_getElem? (i := 2) rfl)), (hw _ (List.mem_of_getElem? (i := 32) rfl))⟩)) (Sta.start t_PRECEDING (Or.inr ⟨(hw _ (List.mem_of_getElem? (i := 2) rfl)), (hw _ (List.mem_of_getElem? (i := 27) rfl))⟩)) (Sta.start t_ANCESTOR_OR_SELF (Or.inr ⟨(hw _ (List.mem_of_getElem? (i := 2) rfl)), (hw _ (List.mem_of_getElem? (i := 34) rfl))⟩)) (Exa.start t_CHILD n1a) (Exa.start t_DESCENDANT n19a) (Exa.start t_ATTRIBUTE n7a) (Exa.start t_SELF n2a) (Exa.start t_DESCENDANT_OR_SELF n25a) (Exa.start t_FOLLOWING_SIBLING n13a) (Exa.start t_FOLLOWING n11a) (Exa.start t_NAMESPACE n9a) (Exa.start t_PARENT n5a) (Exa.start t_ANCESTOR n15a) (Exa.start t_PRECEDING_SIBLING n21a) (Exa.start t_PRECEDING n17a) (Exa.start t_ANCESTOR_OR_SELF n23a) (own_ord t_CHILD n3a) (own_ord t_DESCENDANT n20a) (own_ord t_ATTRIBUTE n8a) (own_ord t_SELF n4a) (own_ord t_DESCENDANT_OR_SELF n25b) (own_ord t_FOLLOWING_SIBLING n14a) (own_ord t_FOLLOWING n12a) (own_ord t_NAMESPACE n10a) (own_ord t_PARENT n6a) (own_ord t_ANCESTOR n16a) (own_ord t_PRECEDING_SIBLING n22a) (own_ord t_PRECEDING n18a) (own_ord t_ANCESTOR_OR_SELF n24a) p e ha hc hk s m _ below hf ((Spec.applies_iff_loose hf).mp happ).1 ⟨rfl, State.Warmed39.refl s, rfl⟩ trivial
  refine ⟨n, _, h1, h2, h3, hpost _ _ _ _ _ _ ⟨Cond.after_iff.mpr rfl, Cond.after_iff.mpr (eq_i res_at (Term.int_eval (1)) rfl), trivial⟩ ⟨hq.1, hq.2.1, (hq.2.2.sift fun y hy => Or.inr (N y hy)).mono (by decide) (by decide)⟩⟩
theorem main_1_1 : Claimed_1_1 := comes_1 fun _ _ _ _ _ _ h hF => ⟨h.1, hF⟩
theorem main_1_2 : Claimed_1_2 := comes_1 fun _ _ _ _ _ _ h hF => ⟨h.2.1, hF⟩
end Jvm.Pilot.@@N@@
namespace Jvm.Pilot.@@N@@
open Jvm Jvm.ClassFile Sem Op Lib Jvm.Free Jvm.Stand Jvm.Pilot.@@N@@.Jvm.D
/-! MADE BY PROGRAM (witnessworld.py) out of the Statement's table words and the real class files: 12 classes; the members and pool entries that the words name. The judged class is class 1, her method 1. -/
namespace start1
open Jvm.ClassFile
def u (s : String) : CpInfo := .utf8 (stringToUtf16 s)
/-- a pool by its gaps: so many unusable entries, then the entry; so many at the end -/
def gap : Nat → List CpInfo → List CpInfo
  | 0, r => r
  | n + 1, r => .unusable :: gap n r
def poolList (es : List (Nat × CpInfo)) (last : Nat) : List CpInfo := es.foldr (fun e r => gap e.1 (e.2 :: r)) (gap last [])
def pool (es : List (Nat × CpInfo)) (last : Nat) : Array CpInfo := ⟨poolList es last⟩
def fileOf (pool : Array CpInfo) (this : Nat) (attrs : Array Attribute := #[]) (ms : Array MethodInfo := #[]) (fl : Nat := 33) (sup : Nat := 0) (ifs : Array Nat := #[]) (fds : Array FieldInfo := #[]) : ClassFile where
  minorVersion := 0
  majorVersion := 65
  constantPool := pool
  accessFlags := fl
  thisClass := this
  superClass := sup
  interfaces := ifs
  fields := fds
  methods := ms
  attributes := attrs
def plain (name : String) (sup : Option ClassId) : Class where
  name := name
  kind := .ordinary
  loader := none
  accessFlags := 33
  super := sup
  interfaces := #[]
  cf := none
  fields := #[]
  methods := #[]
  instanceTypes := #[]
  staticTypes := #[]
  resolved := #[]
  callSites := []
  init := .initialized
  statics := none
  mirror := none

def pool0 : Array CpInfo := pool [(5, u "<init>"), (0, u "()V"), (1, .class_ 10), (1, u "java/lang/Object")] 113

def k0m0 : Method := { name := "<init>", desc := "()V", sig := { parameters := [], returnType := none }, accessFlags := 1, code := none }
/-- java/lang/Object -/
def k0 : Class := { plain "java/lang/Object" none with
  accessFlags := 33
  interfaces := #[]
  cf := some (fileOf pool0 8 #[] #[{ accessFlags := 1, nameIndex := 5, descriptorIndex := 6, attributes := #[] }] 33 0 #[] #[])
  fields := #[]
  methods := #[k0m0]
  instanceTypes := #[]
  staticTypes := #[]
  resolved := Array.replicate 124 none
  statics := none }

def pool1 : Array CpInfo := pool [(2, .class_ 4), (1, u "java/lang/Object"), (0, u "<init>"), (0, u "()V"), (0, .integer 2147483647), (0, .fieldref 9 10), (0, .class_ 11), (0, .nameAndType 12 13), (0, u "com/example/thames/thames/engine/Axis"), (0, u "CHILD"), (0, u "Lcom/example/thames/thames/engine/Axis;"), (0, .fieldref 9 15), (0, .nameAndType 16 13), (0, u "DESCENDANT"), (0, .fieldref 9 18), (0, .nameAndType 19 13), (0, u "ATTRIBUTE"), (0, .fieldref 9 21), (0, .nameAndType 22 13), (0, u "SELF"), (0, .fieldref 9 24), (0, .nameAndType 25 13), (0, u "DESCENDANT_OR_SELF"), (0, .fieldref 9 27), (0, .nameAndType 28 13), (0, u "FOLLOWING_SIBLING"), (0, .fieldref 9 30), (0, .nameAndType 31 13), (0, u "FOLLOWING"), (0, .fieldref 9 33), (0, .nameAndType 34 13), (0, u "NAMESPACE"), (0, .fieldref 9 36), (0, .nameAndType 37 13), (0, u "PARENT"), (0, .fieldref 9 39), (0, .nameAndType 40 13), (0, u "ANCESTOR"), (0, .fieldref 9 42), (0, .nameAndType 43 13), (0, u "PRECEDING_SIBLING"), (0, .fieldref 9 45), (0, .nameAndType 46 13), (0, u "PRECEDING"), (0, .fieldref 9 48), (0, .nameAndType 49 13), (0, u "ANCESTOR_OR_SELF"), (0, .methodref 9 51), (0, .nameAndType 52 53), (0, u "mayLeadToMany"), (0, u "()Z"), (0, .class_ 55), (0, u "com/example/thames/thames/engine/AxisMayLeadToManyPinLaw"), (2, u "law"), (0, u "(I)Z")] 3

def k1m0 : Method := { name := "<init>", desc := "()V", sig := { parameters := [], returnType := none }, accessFlags := 2, code := none }
def k1c1 : Code := { maxStack := 2, maxLocals := 4, code := code, exceptionTable := #[], attributes := #[] }
def k1m1 : Method := { name := "law", desc := "(I)Z", sig := { parameters := [.int], returnType := some .boolean }, accessFlags := 9, code := some k1c1 }
/-- com/example/thames/thames/engine/AxisMayLeadToManyPinLaw -/
def k1 : Class := { plain "com/example/thames/thames/engine/AxisMayLeadToManyPinLaw" (some 0) with
  accessFlags := 49
  interfaces := #[]
  cf := some (fileOf pool1 54 #[] #[{ accessFlags := 2, nameIndex := 5, descriptorIndex := 6, attributes := #[] }, { accessFlags := 9, nameIndex := 58, descriptorIndex := 59, attributes := #[] }] 49 2 #[] #[])
  fields := #[]
  methods := #[k1m0, k1m1]
  instanceTypes := #[]
  staticTypes := #[]
  resolved := Array.replicate 63 none
  statics := none }

def pool2 : Array CpInfo := pool [(1, .class_ 2), (0, u "java/lang/constant/Constable"), (0, .class_ 4), (0, u "java/lang/Object")] 6

/-- java/lang/constant/Constable -/
def k2 : Class := { plain "java/lang/constant/Constable" (some 0) with
  accessFlags := 1537
  interfaces := #[]
  cf := some (fileOf pool2 1 #[] #[] 1537 3 #[] #[])
  fields := #[]
  methods := #[]
  instanceTypes := #[]
  staticTypes := #[]
  resolved := Array.replicate 11 none
  statics := none }

def pool3 : Array CpInfo := pool [(1, .class_ 2), (0, u "java/lang/Comparable"), (0, .class_ 4), (0, u "java/lang/Object")] 7

/-- java/lang/Comparable -/
def k3 : Class := { plain "java/lang/Comparable" (some 0) with
  accessFlags := 1537
  interfaces := #[]
  cf := some (fileOf pool3 1 #[] #[] 1537 3 #[] #[])
  fields := #[]
  methods := #[]
  instanceTypes := #[]
  staticTypes := #[]
  resolved := Array.replicate 12 none
  statics := none }

def pool4 : Array CpInfo := pool [(1, .class_ 2), (0, u "java/io/Serializable"), (0, .class_ 4), (0, u "java/lang/Object")] 2

/-- java/io/Serializable -/
def k4 : Class := { plain "java/io/Serializable" (some 0) with
  accessFlags := 1537
  interfaces := #[]
  cf := some (fileOf pool4 1 #[] #[] 1537 3 #[] #[])
  fields := #[]
  methods := #[]
  instanceTypes := #[]
  staticTypes := #[]
  resolved := Array.replicate 7 none
  statics := none }

def pool5 : Array CpInfo := pool [(2, .class_ 4), (1, u "java/lang/Enum"), (0, u "name"), (0, u "Ljava/lang/String;"), (2, u "ordinal"), (0, u "I"), (1, .class_ 14), (1, u "java/lang/Object"), (4, u "hash"), (86, .class_ 108), (1, u "java/lang/Enum$EnumDesc"), (2, .class_ 112), (0, u "java/lang/constant/Constable"), (0, .class_ 114), (0, u "java/lang/Comparable"), (0, .class_ 116), (0, u "java/io/Serializable")] 87

/-- java/lang/Enum -/
def k5 : Class := { plain "java/lang/Enum" (some 0) with
  accessFlags := 1057
  interfaces := #[2, 3, 4]
  cf := some (fileOf pool5 2 #[.nestMembers #[106]] #[] 1057 12 #[111, 113, 115] #[{ accessFlags := 18, nameIndex := 5, descriptorIndex := 6, attributes := #[] }, { accessFlags := 18, nameIndex := 9, descriptorIndex := 10, attributes := #[] }, { accessFlags := 2, nameIndex := 19, descriptorIndex := 10, attributes := #[] }])
  fields := #[{ name := "name", type := (.object "java/lang/String"), accessFlags := 18, slot := 0, constantValue := 0 }, { name := "ordinal", type := .int, accessFlags := 18, slot := 1, constantValue := 0 }, { name := "hash", type := .int, accessFlags := 2, slot := 2, constantValue := 0 }]
  methods := #[]
  instanceTypes := #[(.object "java/lang/String"), .int, .int]
  staticTypes := #[]
  resolved := Array.replicate 204 none
  statics := none }

def pool6 : Array CpInfo := pool [(1, .class_ 2), (0, u "com/example/thames/thames/engine/Axis"), (2, u "CHILD"), (0, u "Lcom/example/thames/thames/engine/Axis;"), (2, u "DESCENDANT"), (0, .fieldref 1 11), (0, .nameAndType 12 6), (0, u "ATTRIBUTE"), (0, .fieldref 1 14), (0, .nameAndType 15 6), (0, u "SELF"), (2, u "DESCENDANT_OR_SELF"), (2, u "FOLLOWING_SIBLING"), (2, u "FOLLOWING"), (0, .fieldref 1 26), (0, .nameAndType 27 6), (0, u "NAMESPACE"), (0, .fieldref 1 29), (0, .nameAndType 30 6), (0, u "PARENT"), (2, u "ANCESTOR"), (2, u "PRECEDING_SIBLING"), (2, u "PRECEDING"), (2, u "ANCESTOR_OR_SELF"), (2, u "$VALUES"), (0, u "[Lcom/example/thames/thames/engine/Axis;"), (6, .class_ 55), (1, u "java/lang/Enum"), (8, u "axisName"), (0, u "Ljava/lang/String;"), (2, u "principalNodeKind"), (0, u "Lcom/example/thames/thames/model/NodeKind;"), (2, u "reverse"), (0, u "Z"), (2, u "steps"), (94, u "()Z"), (141, u "mayLeadToMany")] 34

def k6c0 : Code := { maxStack := 2, maxLocals := 1, code := prog_42_method_10_code, exceptionTable := #[], attributes := #[] }
def k6m0 : Method := { name := "mayLeadToMany", desc := "()Z", sig := { parameters := [], returnType := some .boolean }, accessFlags := 0, code := some k6c0 }
/-- com/example/thames/thames/engine/Axis -/
def k6 : Class := { plain "com/example/thames/thames/engine/Axis" (some 5) with
  accessFlags := 16432
  interfaces := #[]
  cf := some (fileOf pool6 1 #[] #[{ accessFlags := 0, nameIndex := 313, descriptorIndex := 171, attributes := #[] }] 16432 53 #[] #[{ accessFlags := 16409, nameIndex := 5, descriptorIndex := 6, attributes := #[] }, { accessFlags := 16409, nameIndex := 9, descriptorIndex := 6, attributes := #[] }, { accessFlags := 16409, nameIndex := 12, descriptorIndex := 6, attributes := #[] }, { accessFlags := 16409, nameIndex := 15, descriptorIndex := 6, attributes := #[] }, { accessFlags := 16409, nameIndex := 18, descriptorIndex := 6, attributes := #[] }, { accessFlags := 16409, nameIndex := 21, descriptorIndex := 6, attributes := #[] }, { accessFlags := 16409, nameIndex := 24, descriptorIndex := 6, attributes := #[] }, { accessFlags := 16409, nameIndex := 27, descriptorIndex := 6, attributes := #[] }, { accessFlags := 16409, nameIndex := 30, descriptorIndex := 6, attributes := #[] }, { accessFlags := 16409, nameIndex := 33, descriptorIndex := 6, attributes := #[] }, { accessFlags := 16409, nameIndex := 36, descriptorIndex := 6, attributes := #[] }, { accessFlags := 16409, nameIndex := 39, descriptorIndex := 6, attributes := #[] }, { accessFlags := 16409, nameIndex := 42, descriptorIndex := 6, attributes := #[] }, { accessFlags := 18, nameIndex := 64, descriptorIndex := 65, attributes := #[] }, { accessFlags := 18, nameIndex := 68, descriptorIndex := 69, attributes := #[] }, { accessFlags := 18, nameIndex := 72, descriptorIndex := 73, attributes := #[] }, { accessFlags := 18, nameIndex := 76, descriptorIndex := 73, attributes := #[] }, { accessFlags := 4122, nameIndex := 45, descriptorIndex := 46, attributes := #[] }])
  fields := #[{ name := "CHILD", type := (.object "com/example/thames/thames/engine/Axis"), accessFlags := 16409, slot := 0, constantValue := 0 }, { name := "DESCENDANT", type := (.object "com/example/thames/thames/engine/Axis"), accessFlags := 16409, slot := 1, constantValue := 0 }, { name := "ATTRIBUTE", type := (.object "com/example/thames/thames/engine/Axis"), accessFlags := 16409, slot := 2, constantValue := 0 }, { name := "SELF", type := (.object "com/example/thames/thames/engine/Axis"), accessFlags := 16409, slot := 3, constantValue := 0 }, { name := "DESCENDANT_OR_SELF", type := (.object "com/example/thames/thames/engine/Axis"), accessFlags := 16409, slot := 4, constantValue := 0 }, { name := "FOLLOWING_SIBLING", type := (.object "com/example/thames/thames/engine/Axis"), accessFlags := 16409, slot := 5, constantValue := 0 }, { name := "FOLLOWING", type := (.object "com/example/thames/thames/engine/Axis"), accessFlags := 16409, slot := 6, constantValue := 0 }, { name := "NAMESPACE", type := (.object "com/example/thames/thames/engine/Axis"), accessFlags := 16409, slot := 7, constantValue := 0 }, { name := "PARENT", type := (.object "com/example/thames/thames/engine/Axis"), accessFlags := 16409, slot := 8, constantValue := 0 }, { name := "ANCESTOR", type := (.object "com/example/thames/thames/engine/Axis"), accessFlags := 16409, slot := 9, constantValue := 0 }, { name := "PRECEDING_SIBLING", type := (.object "com/example/thames/thames/engine/Axis"), accessFlags := 16409, slot := 10, constantValue := 0 }, { name := "PRECEDING", type := (.object "com/example/thames/thames/engine/Axis"), accessFlags := 16409, slot := 11, constantValue := 0 }, { name := "ANCESTOR_OR_SELF", type := (.object "com/example/thames/thames/engine/Axis"), accessFlags := 16409, slot := 12, constantValue := 0 }, { name := "axisName", type := (.object "java/lang/String"), accessFlags := 18, slot := 3, constantValue := 0 }, { name := "principalNodeKind", type := (.object "com/example/thames/thames/model/NodeKind"), accessFlags := 18, slot := 4, constantValue := 0 }, { name := "reverse", type := .boolean, accessFlags := 18, slot := 5, constantValue := 0 }, { name := "steps", type := .boolean, accessFlags := 18, slot := 6, constantValue := 0 }, { name := "$VALUES", type := (.array (.object "com/example/thames/thames/engine/Axis")), accessFlags := 4122, slot := 13, constantValue := 0 }]
  methods := #[k6m0]
  instanceTypes := #[(.object "java/lang/String"), .int, .int, (.object "java/lang/String"), (.object "com/example/thames/thames/model/NodeKind"), .boolean, .boolean]
  staticTypes := #[(.object "com/example/thames/thames/engine/Axis"), (.object "com/example/thames/thames/engine/Axis"), (.object "com/example/thames/thames/engine/Axis"), (.object "com/example/thames/thames/engine/Axis"), (.object "com/example/thames/thames/engine/Axis"), (.object "com/example/thames/thames/engine/Axis"), (.object "com/example/thames/thames/engine/Axis"), (.object "com/example/thames/thames/engine/Axis"), (.object "com/example/thames/thames/engine/Axis"), (.object "com/example/thames/thames/engine/Axis"), (.object "com/example/thames/thames/engine/Axis"), (.object "com/example/thames/thames/engine/Axis"), (.object "com/example/thames/thames/engine/Axis"), (.array (.object "com/example/thames/thames/engine/Axis"))]
  resolved := Array.replicate 348 none
  statics := some 0 }

def pool7 : Array CpInfo := pool [(1, u "java/lang/Cloneable"), (0, .class_ 1), (0, u "java/lang/Object"), (0, .class_ 3)] 3

/-- java/lang/Cloneable -/
def k7 : Class := { plain "java/lang/Cloneable" (some 0) with
  accessFlags := 1537
  interfaces := #[]
  cf := some (fileOf pool7 2 #[] #[] 1537 4 #[] #[])
  fields := #[]
  methods := #[]
  instanceTypes := #[]
  staticTypes := #[]
  resolved := Array.replicate 8 none
  statics := none }

/-- the primitive byte -/
def k8 : Class := { plain "byte" none with kind := .primitive 'B', accessFlags := 0x411 }
/-- [B -/
def k9 : Class := { plain "[B" (some 0) with kind := .array 8 .byte, interfaces := #[7, 4], accessFlags := 1041 }

/-- the primitive int -/
def k10 : Class := { plain "int" none with kind := .primitive 'I', accessFlags := 0x411 }
/-- [I -/
def k11 : Class := { plain "[I" (some 0) with kind := .array 10 .int, interfaces := #[7, 4], accessFlags := 1041 }

def heap : Heap := #[{ cls := 6, slots := #[.ref 1, .ref 2, .ref 3, .ref 4, .ref 5, .ref 6, .ref 7, .ref 8, .ref 9, .ref 10, .ref 11, .ref 12, .ref 13, .null], vm := .statics 6 },
  { cls := 6, slots := #[.null, .int 0, .int 0, .null, .null, .int 0, .int 0], vm := .none },
  { cls := 6, slots := #[.null, .int 1, .int 0, .null, .null, .int 0, .int 0], vm := .none },
  { cls := 6, slots := #[.null, .int 2, .int 0, .null, .null, .int 0, .int 0], vm := .none },
  { cls := 6, slots := #[.null, .int 3, .int 0, .null, .null, .int 0, .int 0], vm := .none },
  { cls := 6, slots := #[.null, .int 4, .int 0, .null, .null, .int 0, .int 0], vm := .none },
  { cls := 6, slots := #[.null, .int 5, .int 0, .null, .null, .int 0, .int 0], vm := .none },
  { cls := 6, slots := #[.null, .int 6, .int 0, .null, .null, .int 0, .int 0], vm := .none },
  { cls := 6, slots := #[.null, .int 7, .int 0, .null, .null, .int 0, .int 0], vm := .none },
  { cls := 6, slots := #[.null, .int 8, .int 0, .null, .null, .int 0, .int 0], vm := .none },
  { cls := 6, slots := #[.null, .int 9, .int 0, .null, .null, .int 0, .int 0], vm := .none },
  { cls := 6, slots := #[.null, .int 10, .int 0, .null, .null, .int 0, .int 0], vm := .none },
  { cls := 6, slots := #[.null, .int 11, .int 0, .null, .null, .int 0, .int 0], vm := .none },
  { cls := 6, slots := #[.null, .int 12, .int 0, .null, .null, .int 0, .int 0], vm := .none }]
def classes : Array Class := #[k0, k1, k2, k3, k4, k5, k6, k7, k8, k9, k10, k11]
def interned : List (Array UInt16 × Addr) := []
def slotsUsed : Nat := 105
def theMethod : MethodId := ⟨1, 1⟩
def args0 : Array Value := #[.int 5]
def aboutOver (below : List Frame) : State where
  vm := { classes := classes, interned := interned.toArray }
  heap := heap
  slotsUsed := slotsUsed
  threads := #[{ frames := .invoking theMethod args0 :: below }]
def below0 : List Frame := [.native { method := ⟨0, 0⟩, args := #[] }]
def about1 : State := aboutOver below0
def p0 : Program := .bare "" "" ""
def e0 : Env := launch0.env 0 0 0
theorem w_frames : about1.frames = Frame.invoking theMethod args0 :: below0 := rfl
set_option maxRecDepth 65536 in
theorem w_args : argsFit about1.vm theMethod args0 = true := by decide +kernel
set_option maxRecDepth 65536 in
theorem w_heap : heapFits about1 = true := by decide +kernel
set_option maxRecDepth 65536 in
theorem w_runnable : about1.curStatus? = some .runnable := by decide +kernel
set_option maxRecDepth 65536 in
theorem w_alone : about1.alone = true := by decide +kernel
set_option maxRecDepth 65536 in
theorem w_named : about1.methodNamed? x = some theMethod := by decide +kernel
set_option maxRecDepth 65536 in
theorem w_hears : about1.hears theMethod below0 = true := by decide +kernel
set_option maxRecDepth 65536 in
theorem w_ripe : about1.ripe theMethod args0 below0 = true := by decide +kernel
theorem w_running : about1.status = .running := rfl
set_option maxRecDepth 65536 in
theorem w_room : about1.hasRoom e0.platform room_1 = true :=
  launch0.hasRoom_least _ room_1 (by decide +kernel) (by decide +kernel) (by decide +kernel) (by decide +kernel) (by decide +kernel) (by decide +kernel)
theorem allAtoms_all (ts : List Jvm.Cond) (a : Array Jvm.Value) (st : Jvm.State) : (allAtoms ts).before a st = ts.all (fun c => c.before a st) := by
  induction ts with
  | nil => rfl
  | cons c t ih =>
    show (Jvm.Cond.and c (allAtoms t)).before a st = _
    rw [Jvm.Cond.before_and, ih, List.all_cons]
def words1 : List Jvm.Cond := Jvm.Cond.code x code maxLocals ret :: tables_1
/-- a 'code' word, met by the world's own term for the bytes: nothing is compared byte by byte -/
theorem code_word {y : MethodName} {bytes : ByteArray} {mx : Nat} {rt : Option FieldType} {a : Array Value} {s : State} {m : MethodId} {meth : Method} {c : Code} (h1 : s.methodNamed? y = some m) (h2 : s.vm.method? m = some meth) (h3 : meth.code = some c) (h4 : c.code = bytes)
    (h5 : (c.maxLocals == mx && c.exceptionTable.isEmpty && decide (c.maxStack ≤ mostOperands) && decide (meth.sig.returnType = rt) && !meth.locks && decide (parseMethodDescriptor y.desc = some meth.sig)) = true) : (Jvm.Cond.code y bytes mx rt).before a s = true := by
  simp only [Bool.and_eq_true, beq_iff_eq, Bool.not_eq_true', decide_eq_true_eq] at h5
  obtain ⟨⟨⟨⟨⟨g1, g2⟩, g3⟩, g4⟩, g5⟩, g6⟩ := h5
  simp [Cond.before, Cond.holds, Cond.value, h1, h2, h3, h4, g1, g2, g3, g4, g5, g6]
def isCode : Jvm.Cond → Bool
  | .code _ _ _ _ => true
  | _ => false
theorem all_split {L : List Jvm.Cond} {P : Jvm.Cond → Bool} (h1 : L.all (fun c => isCode c || P c) = true) (h2 : ∀ c ∈ L.filter isCode, P c = true) : L.all P = true := by
  refine List.all_eq_true.mpr fun c hc => ?_
  have h := List.all_eq_true.mp h1 c hc
  rcases Bool.eq_false_or_eq_true (isCode c) with hi | hi
  · exact h2 c (List.mem_filter.mpr ⟨hc, hi⟩)
  · simpa [hi] using h
set_option maxRecDepth 65536 in
theorem w_c0 : (Jvm.Cond.code x code maxLocals ret).before args0 about1 = true := code_word (m := ⟨1, 1⟩) (meth := k1m1) (c := k1c1) (by decide +kernel) rfl rfl rfl (by decide +kernel)
set_option maxRecDepth 65536 in
theorem w_c1 : (Jvm.Cond.code ({ cls := "com/example/thames/thames/engine/Axis", name := "mayLeadToMany", desc := "()Z" } : Jvm.MethodName) prog_42_method_10_code (1 : Nat) (Option.some Jvm.ClassFile.FieldType.boolean)).before args0 about1 = true := code_word (m := ⟨6, 0⟩) (meth := k6m0) (c := k6c0) (by decide +kernel) rfl rfl rfl (by decide +kernel)
def codes1 : List Jvm.Cond := [Jvm.Cond.code x code maxLocals ret, Jvm.Cond.code ({ cls := "com/example/thames/thames/engine/Axis", name := "mayLeadToMany", desc := "()Z" } : Jvm.MethodName) prog_42_method_10_code (1 : Nat) (Option.some Jvm.ClassFile.FieldType.boolean)]
set_option maxRecDepth 65536 in
theorem codes_eq : words1.filter isCode = codes1 := rfl
theorem w_codes : ∀ c ∈ words1.filter isCode, c.before args0 about1 = true := by
  rw [codes_eq]
  intro c hc
  simp only [codes1, List.mem_cons, List.not_mem_nil, or_false] at hc
  rcases hc with rfl | rfl
  · exact w_c0
  · exact w_c1
set_option maxRecDepth 65536 in
theorem w_t1 : (words1.take 24).all (fun c => isCode c || c.before args0 about1) = true := by decide +kernel
set_option maxRecDepth 65536 in
theorem w_t2 : (words1.drop 24).all (fun c => isCode c || c.before args0 about1) = true := by decide +kernel
theorem w_tables : (allAtoms (Jvm.Cond.code x code maxLocals ret :: tables_1)).before args0 about1 = true := by
  rw [allAtoms_all]
  show words1.all (fun c => c.before args0 about1) = true
  refine all_split ?_ w_codes
  rw [← List.take_append_drop 24 words1, List.all_append, w_t1, w_t2]
  rfl
set_option maxRecDepth 65536 in
theorem w_case : (Jvm.Cond.and given_1 narrow_1).before args0 about1 = true := by decide +kernel
theorem w_applies : (headSpec (Jvm.Cond.code x code maxLocals ret :: tables_1) room_1).applies x e0.platform about1 = true :=
  (Spec.applies_iff w_frames).mpr ⟨w_running, w_runnable, w_alone, w_named, w_hears, w_ripe, w_room, w_tables⟩
theorem atStart : AtStart classFile x code maxLocals ret World_1 tables_1 room_1 Calls_1 rest_1 Pre_1 launch0 p0 e0 about1 theMethod args0 below0 :=
  ⟨lists_1, trivial, launch0.admits_env _ _ _, launch0.least_env, fairChoices_fair.cas, fairChoices_fair.clock, w_frames, w_args, w_heap, w_applies, trivial, trivial, w_case⟩
end start1
theorem witness_1 : WitnessClaimed_1 := ⟨start1.p0, start1.e0, start1.about1, start1.theMethod, start1.args0, start1.below0, start1.atStart⟩
end Jvm.Pilot.@@N@@
