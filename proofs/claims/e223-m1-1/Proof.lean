import JvmDerived
import JvmDerived.Pilot.@@N@@Statement
import JvmDerived.Pilot.@@N@@Code
set_option linter.unusedVariables false
set_option linter.unusedSimpArgs false
@@BLOCK:NumsL.lean.txt@@
namespace Jvm.RoadKit
open Sem ClassFile Op Lib Jvm.Stand Jvm.Free Jvm.LawKit
section New
variable {p : Program} {l : Launch} {e : Env} {R : Room} {s : State} {m : MethodId} {args : Array Value} {below : List Frame} {meth : Method} {c : Code} {T : State} {locs : List Loc} {cells slots : Nat}
theorem retI (X : Stand p l e R s m args below meth c T locs cells slots) (hx : p.tables.exec = Jvm.exec) {pc : Nat} {Ls : Array Slot} {z : Int32} {rest : List Value} (hret : meth.sig.returnType = some .int) (hd : decode c.code pc = .ok (.ireturn, 1)) {fs : List Frame}
    (hl : ∀ (f : JFrame) (acts : List Action), f.method = m → f.locked = none → f.entered = [] → (doReturn e (T.setTop f) acts (some (.int z))).1 = T.setFrames fs) : Steps p.tables e below (T.setTop (mkF m pc Ls (.int z :: rest))) (T.setFrames fs) := by
  have hm' : T.vm.method? m = some meth := X.method'
  have hn : narrow .int (.int z) = .int z := rfl
  show Steps p.tables e below (T.setTop { method := m, pc := pc, locals := Ls, stack := _ :: rest, locked := none }) _
  jvm_step X.here [X.here.top, hx, hd, hm', hret, hn]
  first | (intro acts; rw [hl _ acts rfl rfl rfl]) | rw [hl _ _ rfl rfl rfl]
  exact Steps.refl _
end New
end Jvm.RoadKit
namespace Jvm.Pilot.@@N@@
open Jvm Jvm.ClassFile Sem Op Lib Jvm.Free Jvm.Stand Jvm.LawKit Jvm.RoadKit Bundle Jvm.Pilot.@@N@@.Jvm.D
/-! from here the body runs to its end, and leaves what Q says -/
def Goes (p : Program) (e : Env) (below : List Frame) (Q : Outcome → State → Prop) (st : State) : Prop :=
  ∃ s₂ o, Steps p.tables e below st s₂ ∧ s₂.status = .running ∧ Ended s₂ below o ∧ Q o s₂
theorem Goes.go {p : Program} {e : Env} {below : List Frame} {Q : Outcome → State → Prop} {st st' : State} (h : ∀ t, Steps p.tables e below st' t → Steps p.tables e below st t) (k : Goes p e below Q st') : Goes p e below Q st := by
  obtain ⟨s₂, o, h1, h2⟩ := k
  exact ⟨s₂, o, h _ h1, h2⟩
theorem Goes.via {p : Program} {e : Env} {below : List Frame} {Q : Outcome → State → Prop} {st st' : State} (h : Steps p.tables e below st st') (k : Goes p e below Q st') : Goes p e below Q st :=
  Goes.go (fun _ q => h.trans q) k
theorem Goes.out {p : Program} {l : Launch} {e : Env} {R : Room} {s : State} {m : MethodId} {args : Array Value} {below : List Frame} {meth : Method} {c : Code} {T : State} {locs : List Loc} {cells slots : Nat}
    (X : Stand p l e R s m args below meth c T locs cells slots) {v : Option Value} {g : JFrame} (hv : meth.sig.returnType = none → v = none) (hlocks : meth.locks = false)
    (hst : ∀ fs : List Frame, (∀ (f : JFrame) (acts : List Action), f.method = m → f.locked = none → f.entered = [] → (doReturn e (T.setTop f) acts v).1 = T.setFrames fs) → Steps p.tables e below (T.setTop g) (T.setFrames fs))
    {Qn : Option Value → Heap → List Loc → Prop} {C S : Nat} (hq : Qn v T.heap locs) (hC : cells ≤ C) (hS : slots ≤ S) :
    Goes p e below (fun o U' => ∃ v L, o = .returned v ∧ Qn v U'.heap L ∧ FrameEnd s o U' L C S) (T.setTop g) := by
  obtain ⟨fs, hr, hrun, hended, hW, hsame⟩ := X.leave (v := v) hv hlocks
  exact ⟨_, _, hst fs hr, hrun, hended, _, _, rfl, hq, ⟨_, rfl⟩, hW, hsame.mono hC hS⟩

/-- the characters of XML, by their number -/
abbrev own_px (n : Int) : Prop := n = 9 ∨ n = 10 ∨ n = 13 ∨ (32 ≤ n ∧ n ≤ 55295) ∨ (57344 ≤ n ∧ n ≤ 65533) ∨ (65536 ≤ n ∧ n ≤ 1114111)
def own_xv (c : Int32) : Int32 := if own_px c.toInt then 1 else 0
theorem own_x1 {c : Int32} (h : own_px c.toInt) : some (Value.int (nar .boolean 1)) = some (Value.int (own_xv c)) := by unfold own_xv; rw [if_pos h]; rfl
theorem own_x0 {c : Int32} (h : ¬ own_px c.toInt) : some (Value.int (nar .boolean 0)) = some (Value.int (own_xv c)) := by unfold own_xv; rw [if_neg h]; rfl
theorem own_idx (p n : Int32) (hn : 0 < n.toInt) : 0 ≤ ((p &&& (2147483647 : Int32)) % n).toInt ∧ ((p &&& (2147483647 : Int32)) % n).toInt < n.toInt := by
  have h1 : (p &&& (2147483647 : Int32)).toInt = p.toInt % 2 ^ 31 := Jvm.Kit.i32_mask p 2147483647 (k := 31) (by decide) (by decide)
  have h2 : 0 ≤ (p &&& (2147483647 : Int32)).toInt := by rw [h1]; exact Int.emod_nonneg _ (by decide)
  rw [Jvm.Kit.i32_rem_nonneg h2]
  exact ⟨Int.emod_nonneg _ (by omega), Int.emod_lt_of_pos _ hn⟩
theorem own_in {j : Int32} {n : Nat} (h1 : 0 ≤ j.toInt) (h2 : j.toInt < (n : Int)) : ¬ (j < 0 ∨ n ≤ j.toNatClampNeg) := by
  simp only [Int32.lt_iff_toInt_lt, Int32.toNatClampNeg, Int32.reduceToInt]; omega
/-- an array of ints: its length, and that an int lies at each place -/
def own_ai (Z : State) (h : Heap) (a : Addr) (n : Nat) : Prop := ∃ c : Cell, Arr Z h a c .int ∧ c.slots.size = n ∧ ∀ i, i < n → ∃ x : Int32, c.slots[i]? = some (.int x)
theorem own_ai.made {Z : State} {h : Heap} {a : Addr} {k : ClassId} {z : Int32} {n : Nat} (A : Arr Z h a (newA k .int z) .int) (hn : z.toNatClampNeg = n) : own_ai Z h a n :=
  ⟨_, A, by rw [sz_new, hn], fun i hi => ⟨0, by simp [newA, hn, hi, defaultValue]⟩⟩
theorem own_ai.wr {Z : State} {h h' : Heap} {a : Addr} {n sl : Nat} {x : Int32} (A : own_ai Z h a n) (W : Wr h h' a sl (.int x)) : own_ai Z h' a n := by
  obtain ⟨c, A, S, H⟩ := A
  refine ⟨_, A.same W, by rw [sz_set, S], fun i hi => ?_⟩
  by_cases e : sl = i
  · subst e; exact ⟨x, by simp [Cell.setSlot, S, hi]⟩
  · obtain ⟨y, hy⟩ := H i hi
    exact ⟨y, by simp only [Cell.setSlot]; rw [Array.getElem?_setIfInBounds_ne e]; exact hy⟩
theorem d1_0 : decode prog_227_method_5_code 0 = .ok (.iload_n 0, 1) := by decide +kernel
theorem d1_1 : decode prog_227_method_5_code 1 = .ok (.bipush 32, 2) := by decide +kernel
theorem d1_3 : decode prog_227_method_5_code 3 = .ok (.if_icmp .lt 9, 3) := by decide +kernel
theorem d1_6 : decode prog_227_method_5_code 6 = .ok (.iload_n 0, 1) := by decide +kernel
theorem d1_7 : decode prog_227_method_5_code 7 = .ok (.ldc 41, 2) := by decide +kernel
theorem d1_9 : decode prog_227_method_5_code 9 = .ok (.if_icmp .le 45, 3) := by decide +kernel
theorem d1_12 : decode prog_227_method_5_code 12 = .ok (.iload_n 0, 1) := by decide +kernel
theorem d1_13 : decode prog_227_method_5_code 13 = .ok (.bipush 10, 2) := by decide +kernel
theorem d1_15 : decode prog_227_method_5_code 15 = .ok (.if_icmp .eq 39, 3) := by decide +kernel
theorem d1_18 : decode prog_227_method_5_code 18 = .ok (.iload_n 0, 1) := by decide +kernel
theorem d1_19 : decode prog_227_method_5_code 19 = .ok (.bipush 9, 2) := by decide +kernel
theorem d1_21 : decode prog_227_method_5_code 21 = .ok (.if_icmp .eq 33, 3) := by decide +kernel
theorem d1_24 : decode prog_227_method_5_code 24 = .ok (.iload_n 0, 1) := by decide +kernel
theorem d1_25 : decode prog_227_method_5_code 25 = .ok (.bipush 13, 2) := by decide +kernel
theorem d1_27 : decode prog_227_method_5_code 27 = .ok (.if_icmp .eq 27, 3) := by decide +kernel
theorem d1_30 : decode prog_227_method_5_code 30 = .ok (.iload_n 0, 1) := by decide +kernel
theorem d1_31 : decode prog_227_method_5_code 31 = .ok (.ldc 42, 2) := by decide +kernel
theorem d1_33 : decode prog_227_method_5_code 33 = .ok (.if_icmp .lt 9, 3) := by decide +kernel
theorem d1_36 : decode prog_227_method_5_code 36 = .ok (.iload_n 0, 1) := by decide +kernel
theorem d1_37 : decode prog_227_method_5_code 37 = .ok (.ldc 43, 2) := by decide +kernel
theorem d1_39 : decode prog_227_method_5_code 39 = .ok (.if_icmp .le 15, 3) := by decide +kernel
theorem d1_42 : decode prog_227_method_5_code 42 = .ok (.iload_n 0, 1) := by decide +kernel
theorem d1_43 : decode prog_227_method_5_code 43 = .ok (.ldc 44, 2) := by decide +kernel
theorem d1_45 : decode prog_227_method_5_code 45 = .ok (.if_icmp .lt 13, 3) := by decide +kernel
theorem d1_48 : decode prog_227_method_5_code 48 = .ok (.iload_n 0, 1) := by decide +kernel
theorem d1_49 : decode prog_227_method_5_code 49 = .ok (.ldc 45, 2) := by decide +kernel
theorem d1_51 : decode prog_227_method_5_code 51 = .ok (.if_icmp .gt 7, 3) := by decide +kernel
theorem d1_54 : decode prog_227_method_5_code 54 = .ok (.iconst 1, 1) := by decide +kernel
theorem d1_55 : decode prog_227_method_5_code 55 = .ok (.goto 4, 3) := by decide +kernel
theorem d1_58 : decode prog_227_method_5_code 58 = .ok (.iconst 0, 1) := by decide +kernel
theorem d1_59 : decode prog_227_method_5_code 59 = .ok (.ireturn, 1) := by decide +kernel
theorem pn_1 : plainName "com/example/thames/thames/model/XmlCharacters" = true := by first | (simp [plainName, overriddenIn]; done) | decide +kernel
theorem ef_1 (m : MethodId) (p0 : Int32) : entryFrame m #[(.int p0)] 1 = mkF m 0 #[.val (.int p0)] [] := by first | (simp [entryFrame, mkF, argsToLocals, Value.category]; done) | rfl
def Q1 (Z : State) (p0 : Int32) (h0 : Heap) (n0 : Nat) (v : Option Value) (h : Heap) (L : List Loc) : Prop := v = some (.int (own_xv p0)) ∧ Fr n0 L ∧ h = h0
set_option maxRecDepth 65536 in
set_option maxHeartbeats 40000000 in
theorem rm1 (l : Launch) (Z : State) (a0 : Array Value) (hw : ∀ d ∈ tables_1, d.before a0 Z = true) (ws : List Jvm.Cond) (p0 : Int32) (h0 : Heap) (n0 : Nat) (Z0 : n0 ≤ h0.size) :
    MetFree l (⟨"com/example/thames/thames/model/XmlCharacters", "isXmlCharacter", "(I)Z"⟩ : MethodName) (head1 (Jvm.Cond.code (⟨"com/example/thames/thames/model/XmlCharacters", "isXmlCharacter", "(I)Z"⟩ : MethodName) prog_227_method_5_code 1 (some .boolean) :: ws) ({ frames := 0, cells := 0, slots := 0, locals := 0 } : Room)) (fun a U => a = #[(.int p0)] ∧ Z.Warmed39 U.vm ∧ U.heap = h0) (fun _ _ _ _ _ => True) (fun _ U o U' => ∃ v L, o = .returned v ∧ Q1 Z p0 h0 n0 v U'.heap L ∧ FrameEnd U o U' L ({ frames := 0, cells := 0, slots := 0, locals := 0 } : Room).cells ({ frames := 0, cells := 0, slots := 0, locals := 0 } : Room).slots) := by
  refine MetFree.of_bodySF (plainFor_of_name pn_1) hisR ?_
  intro p e s m args below meth c s₁ Bd hml0 hP hK
  obtain ⟨rfl, hZ, hh⟩ := hP
  have hx := Bd.exec
  have hby := Bd.bytes
  have hml : c.maxLocals = 1 := hml0
  have hown : s.vm.findClass "com/example/thames/thames/model/XmlCharacters" = some m.cls := findClass_of_methodNamed Bd.named
  have hnm := (name_of_methodNamed Bd.named Bd.method).1
  have X0 : Stand p l e ({ frames := 0, cells := 0, slots := 0, locals := 0 } : Room) s m #[(.int p0)] below meth c s₁ [] 0 0 := Stand.of_body Bd
  have e0 : s₁.heap = h0 := by rw [← hh, Bd.state]; rfl
  have N0 := Fr.nil n0
  show Goes p e below (fun o U' => ∃ v L, o = .returned v ∧ Q1 Z p0 h0 n0 v U'.heap L ∧ FrameEnd s o U' L ({ frames := 0, cells := 0, slots := 0, locals := 0 } : Room).cells ({ frames := 0, cells := 0, slots := 0, locals := 0 } : Room).slots) _
  refine Goes.go (fun t k => castTop (ef_1 m p0) k) ?_
  show Goes p e below _ (s₁.setTop (mkF m 0 #[.val (.int p0)] []))
  refine Goes.go (fun t => XS.iloadN X0.here hx rfl (hb hby d1_0) rfl ) ?_
  show Goes p e below _ (s₁.setTop (mkF m 1 #[.val (.int p0)] [(.int p0)]))
  refine Goes.go (fun t => XS.bipush X0.here hx rfl (hb hby d1_1)) ?_
  show Goes p e below _ (s₁.setTop (mkF m 3 #[.val (.int p0)] [(.int (32 : Int32)), (.int p0)]))
  by_cases hc3 : p0 < (32 : Int32)
  · refine Goes.go (fun t => XS.icmpYes X0.here hx rfl (pc0 := 3) (pc' := 12) rfl (hb hby d1_3) rfl (Jvm.Free.XT.ii_lt_t hc3) (by decide) (by decide)) ?_
    show Goes p e below _ (s₁.setTop (mkF m 12 #[.val (.int p0)] []))
    refine Goes.go (fun t => XS.iloadN X0.here hx rfl (hb hby d1_12) rfl ) ?_
    show Goes p e below _ (s₁.setTop (mkF m 13 #[.val (.int p0)] [(.int p0)]))
    refine Goes.go (fun t => XS.bipush X0.here hx rfl (hb hby d1_13)) ?_
    show Goes p e below _ (s₁.setTop (mkF m 15 #[.val (.int p0)] [(.int (10 : Int32)), (.int p0)]))
    by_cases hc15 : p0 = (10 : Int32)
    · refine Goes.go (fun t => XS.icmpYes X0.here hx rfl (pc0 := 15) (pc' := 54) rfl (hb hby d1_15) rfl (Jvm.Free.XT.ii_eq_t hc15) (by decide) (by decide)) ?_
      show Goes p e below _ (s₁.setTop (mkF m 54 #[.val (.int p0)] []))
      refine Goes.go (fun t => XS.iconst X0.here hx rfl (hb hby d1_54)) ?_
      show Goes p e below _ (s₁.setTop (mkF m 55 #[.val (.int p0)] [(.int (1 : Int32))]))
      refine Goes.go (fun t => XS.goto X0.here hx rfl (pc0 := 55) (pc' := 59) rfl (hb hby d1_55) (by decide) (by decide)) ?_
      show Goes p e below _ (s₁.setTop (mkF m 59 #[.val (.int p0)] [(.int (1 : Int32))]))
      exact Goes.out X0 (fun h => by rw [Bd.returns] at h; cases h) Bd.notSynchronized (fun fs hr => retN X0 hx (t := .boolean) Bd.returns (by simp) (hb hby d1_59) hr) ⟨own_x1 (by unfold own_px; simp only [Int32.lt_iff_toInt_lt, ← Int32.toInt_inj, Int32.reduceToInt] at hc3 hc15; omega), N0, e0⟩ (by decide) (by decide)
    · refine Goes.go (fun t => XS.icmpNo X0.here hx rfl (hb hby d1_15) rfl (Jvm.Free.XT.ii_eq_f hc15)) ?_
      show Goes p e below _ (s₁.setTop (mkF m 18 #[.val (.int p0)] []))
      refine Goes.go (fun t => XS.iloadN X0.here hx rfl (hb hby d1_18) rfl ) ?_
      show Goes p e below _ (s₁.setTop (mkF m 19 #[.val (.int p0)] [(.int p0)]))
      refine Goes.go (fun t => XS.bipush X0.here hx rfl (hb hby d1_19)) ?_
      show Goes p e below _ (s₁.setTop (mkF m 21 #[.val (.int p0)] [(.int (9 : Int32)), (.int p0)]))
      by_cases hc21 : p0 = (9 : Int32)
      · refine Goes.go (fun t => XS.icmpYes X0.here hx rfl (pc0 := 21) (pc' := 54) rfl (hb hby d1_21) rfl (Jvm.Free.XT.ii_eq_t hc21) (by decide) (by decide)) ?_
        show Goes p e below _ (s₁.setTop (mkF m 54 #[.val (.int p0)] []))
        refine Goes.go (fun t => XS.iconst X0.here hx rfl (hb hby d1_54)) ?_
        show Goes p e below _ (s₁.setTop (mkF m 55 #[.val (.int p0)] [(.int (1 : Int32))]))
        refine Goes.go (fun t => XS.goto X0.here hx rfl (pc0 := 55) (pc' := 59) rfl (hb hby d1_55) (by decide) (by decide)) ?_
        show Goes p e below _ (s₁.setTop (mkF m 59 #[.val (.int p0)] [(.int (1 : Int32))]))
        exact Goes.out X0 (fun h => by rw [Bd.returns] at h; cases h) Bd.notSynchronized (fun fs hr => retN X0 hx (t := .boolean) Bd.returns (by simp) (hb hby d1_59) hr) ⟨own_x1 (by unfold own_px; simp only [Int32.lt_iff_toInt_lt, ← Int32.toInt_inj, Int32.reduceToInt] at hc3 hc15 hc21; omega), N0, e0⟩ (by decide) (by decide)
      · refine Goes.go (fun t => XS.icmpNo X0.here hx rfl (hb hby d1_21) rfl (Jvm.Free.XT.ii_eq_f hc21)) ?_
        show Goes p e below _ (s₁.setTop (mkF m 24 #[.val (.int p0)] []))
        refine Goes.go (fun t => XS.iloadN X0.here hx rfl (hb hby d1_24) rfl ) ?_
        show Goes p e below _ (s₁.setTop (mkF m 25 #[.val (.int p0)] [(.int p0)]))
        refine Goes.go (fun t => XS.bipush X0.here hx rfl (hb hby d1_25)) ?_
        show Goes p e below _ (s₁.setTop (mkF m 27 #[.val (.int p0)] [(.int (13 : Int32)), (.int p0)]))
        by_cases hc27 : p0 = (13 : Int32)
        · refine Goes.go (fun t => XS.icmpYes X0.here hx rfl (pc0 := 27) (pc' := 54) rfl (hb hby d1_27) rfl (Jvm.Free.XT.ii_eq_t hc27) (by decide) (by decide)) ?_
          show Goes p e below _ (s₁.setTop (mkF m 54 #[.val (.int p0)] []))
          refine Goes.go (fun t => XS.iconst X0.here hx rfl (hb hby d1_54)) ?_
          show Goes p e below _ (s₁.setTop (mkF m 55 #[.val (.int p0)] [(.int (1 : Int32))]))
          refine Goes.go (fun t => XS.goto X0.here hx rfl (pc0 := 55) (pc' := 59) rfl (hb hby d1_55) (by decide) (by decide)) ?_
          show Goes p e below _ (s₁.setTop (mkF m 59 #[.val (.int p0)] [(.int (1 : Int32))]))
          exact Goes.out X0 (fun h => by rw [Bd.returns] at h; cases h) Bd.notSynchronized (fun fs hr => retN X0 hx (t := .boolean) Bd.returns (by simp) (hb hby d1_59) hr) ⟨own_x1 (by unfold own_px; simp only [Int32.lt_iff_toInt_lt, ← Int32.toInt_inj, Int32.reduceToInt] at hc3 hc15 hc21 hc27; omega), N0, e0⟩ (by decide) (by decide)
        · refine Goes.go (fun t => XS.icmpNo X0.here hx rfl (hb hby d1_27) rfl (Jvm.Free.XT.ii_eq_f hc27)) ?_
          show Goes p e below _ (s₁.setTop (mkF m 30 #[.val (.int p0)] []))
          refine Goes.go (fun t => XS.iloadN X0.here hx rfl (hb hby d1_30) rfl ) ?_
          show Goes p e below _ (s₁.setTop (mkF m 31 #[.val (.int p0)] [(.int p0)]))
          refine Goes.go (fun t => X0.ldcI hx hown (mvT hZ (hw _ (List.mem_of_getElem? (i := 17) rfl))) rfl (hb hby d1_31)) ?_
          show Goes p e below _ (s₁.setTop (mkF m 33 #[.val (.int p0)] [(.int (57344 : Int32)), (.int p0)]))
          by_cases hc33 : p0 < (57344 : Int32)
          · refine Goes.go (fun t => XS.icmpYes X0.here hx rfl (pc0 := 33) (pc' := 42) rfl (hb hby d1_33) rfl (Jvm.Free.XT.ii_lt_t hc33) (by decide) (by decide)) ?_
            show Goes p e below _ (s₁.setTop (mkF m 42 #[.val (.int p0)] []))
            refine Goes.go (fun t => XS.iloadN X0.here hx rfl (hb hby d1_42) rfl ) ?_
            show Goes p e below _ (s₁.setTop (mkF m 43 #[.val (.int p0)] [(.int p0)]))
            refine Goes.go (fun t => X0.ldcI hx hown (mvT hZ (hw _ (List.mem_of_getElem? (i := 18) rfl))) rfl (hb hby d1_43)) ?_
            show Goes p e below _ (s₁.setTop (mkF m 45 #[.val (.int p0)] [(.int (65536 : Int32)), (.int p0)]))
            by_cases hc45 : p0 < (65536 : Int32)
            · refine Goes.go (fun t => XS.icmpYes X0.here hx rfl (pc0 := 45) (pc' := 58) rfl (hb hby d1_45) rfl (Jvm.Free.XT.ii_lt_t hc45) (by decide) (by decide)) ?_
              show Goes p e below _ (s₁.setTop (mkF m 58 #[.val (.int p0)] []))
              refine Goes.go (fun t => XS.iconst X0.here hx rfl (hb hby d1_58)) ?_
              show Goes p e below _ (s₁.setTop (mkF m 59 #[.val (.int p0)] [(.int (0 : Int32))]))
              exact Goes.out X0 (fun h => by rw [Bd.returns] at h; cases h) Bd.notSynchronized (fun fs hr => retN X0 hx (t := .boolean) Bd.returns (by simp) (hb hby d1_59) hr) ⟨own_x0 (by unfold own_px; simp only [Int32.lt_iff_toInt_lt, ← Int32.toInt_inj, Int32.reduceToInt] at hc3 hc15 hc21 hc27 hc33 hc45; omega), N0, e0⟩ (by decide) (by decide)
            · refine Goes.go (fun t => XS.icmpNo X0.here hx rfl (hb hby d1_45) rfl (Jvm.Free.XT.ii_lt_f hc45)) ?_
              show Goes p e below _ (s₁.setTop (mkF m 48 #[.val (.int p0)] []))
              refine Goes.go (fun t => XS.iloadN X0.here hx rfl (hb hby d1_48) rfl ) ?_
              show Goes p e below _ (s₁.setTop (mkF m 49 #[.val (.int p0)] [(.int p0)]))
              refine Goes.go (fun t => X0.ldcI hx hown (mvT hZ (hw _ (List.mem_of_getElem? (i := 25) rfl))) rfl (hb hby d1_49)) ?_
              show Goes p e below _ (s₁.setTop (mkF m 51 #[.val (.int p0)] [(.int (1114111 : Int32)), (.int p0)]))
              by_cases hc51 : (1114111 : Int32) < p0
              · refine Goes.go (fun t => XS.icmpYes X0.here hx rfl (pc0 := 51) (pc' := 58) rfl (hb hby d1_51) rfl (Jvm.Free.XT.ii_gt_t hc51) (by decide) (by decide)) ?_
                show Goes p e below _ (s₁.setTop (mkF m 58 #[.val (.int p0)] []))
                refine Goes.go (fun t => XS.iconst X0.here hx rfl (hb hby d1_58)) ?_
                show Goes p e below _ (s₁.setTop (mkF m 59 #[.val (.int p0)] [(.int (0 : Int32))]))
                exact Goes.out X0 (fun h => by rw [Bd.returns] at h; cases h) Bd.notSynchronized (fun fs hr => retN X0 hx (t := .boolean) Bd.returns (by simp) (hb hby d1_59) hr) ⟨own_x0 (by unfold own_px; simp only [Int32.lt_iff_toInt_lt, ← Int32.toInt_inj, Int32.reduceToInt] at hc3 hc15 hc21 hc27 hc33 hc45 hc51; omega), N0, e0⟩ (by decide) (by decide)
              · refine Goes.go (fun t => XS.icmpNo X0.here hx rfl (hb hby d1_51) rfl (Jvm.Free.XT.ii_gt_f hc51)) ?_
                show Goes p e below _ (s₁.setTop (mkF m 54 #[.val (.int p0)] []))
                refine Goes.go (fun t => XS.iconst X0.here hx rfl (hb hby d1_54)) ?_
                show Goes p e below _ (s₁.setTop (mkF m 55 #[.val (.int p0)] [(.int (1 : Int32))]))
                refine Goes.go (fun t => XS.goto X0.here hx rfl (pc0 := 55) (pc' := 59) rfl (hb hby d1_55) (by decide) (by decide)) ?_
                show Goes p e below _ (s₁.setTop (mkF m 59 #[.val (.int p0)] [(.int (1 : Int32))]))
                exact Goes.out X0 (fun h => by rw [Bd.returns] at h; cases h) Bd.notSynchronized (fun fs hr => retN X0 hx (t := .boolean) Bd.returns (by simp) (hb hby d1_59) hr) ⟨own_x1 (by unfold own_px; simp only [Int32.lt_iff_toInt_lt, ← Int32.toInt_inj, Int32.reduceToInt] at hc3 hc15 hc21 hc27 hc33 hc45 hc51; omega), N0, e0⟩ (by decide) (by decide)
          · refine Goes.go (fun t => XS.icmpNo X0.here hx rfl (hb hby d1_33) rfl (Jvm.Free.XT.ii_lt_f hc33)) ?_
            show Goes p e below _ (s₁.setTop (mkF m 36 #[.val (.int p0)] []))
            refine Goes.go (fun t => XS.iloadN X0.here hx rfl (hb hby d1_36) rfl ) ?_
            show Goes p e below _ (s₁.setTop (mkF m 37 #[.val (.int p0)] [(.int p0)]))
            refine Goes.go (fun t => X0.ldcI hx hown (mvT hZ (hw _ (List.mem_of_getElem? (i := 24) rfl))) rfl (hb hby d1_37)) ?_
            show Goes p e below _ (s₁.setTop (mkF m 39 #[.val (.int p0)] [(.int (65533 : Int32)), (.int p0)]))
            by_cases hc39 : (65533 : Int32) < p0
            · refine Goes.go (fun t => XS.icmpNo X0.here hx rfl (hb hby d1_39) rfl (Jvm.Free.XT.ii_le_f hc39)) ?_
              show Goes p e below _ (s₁.setTop (mkF m 42 #[.val (.int p0)] []))
              refine Goes.go (fun t => XS.iloadN X0.here hx rfl (hb hby d1_42) rfl ) ?_
              show Goes p e below _ (s₁.setTop (mkF m 43 #[.val (.int p0)] [(.int p0)]))
              refine Goes.go (fun t => X0.ldcI hx hown (mvT hZ (hw _ (List.mem_of_getElem? (i := 18) rfl))) rfl (hb hby d1_43)) ?_
              show Goes p e below _ (s₁.setTop (mkF m 45 #[.val (.int p0)] [(.int (65536 : Int32)), (.int p0)]))
              by_cases hc45 : p0 < (65536 : Int32)
              · refine Goes.go (fun t => XS.icmpYes X0.here hx rfl (pc0 := 45) (pc' := 58) rfl (hb hby d1_45) rfl (Jvm.Free.XT.ii_lt_t hc45) (by decide) (by decide)) ?_
                show Goes p e below _ (s₁.setTop (mkF m 58 #[.val (.int p0)] []))
                refine Goes.go (fun t => XS.iconst X0.here hx rfl (hb hby d1_58)) ?_
                show Goes p e below _ (s₁.setTop (mkF m 59 #[.val (.int p0)] [(.int (0 : Int32))]))
                exact Goes.out X0 (fun h => by rw [Bd.returns] at h; cases h) Bd.notSynchronized (fun fs hr => retN X0 hx (t := .boolean) Bd.returns (by simp) (hb hby d1_59) hr) ⟨own_x0 (by unfold own_px; simp only [Int32.lt_iff_toInt_lt, ← Int32.toInt_inj, Int32.reduceToInt] at hc3 hc15 hc21 hc27 hc33 hc39 hc45; omega), N0, e0⟩ (by decide) (by decide)
              · refine Goes.go (fun t => XS.icmpNo X0.here hx rfl (hb hby d1_45) rfl (Jvm.Free.XT.ii_lt_f hc45)) ?_
                show Goes p e below _ (s₁.setTop (mkF m 48 #[.val (.int p0)] []))
                refine Goes.go (fun t => XS.iloadN X0.here hx rfl (hb hby d1_48) rfl ) ?_
                show Goes p e below _ (s₁.setTop (mkF m 49 #[.val (.int p0)] [(.int p0)]))
                refine Goes.go (fun t => X0.ldcI hx hown (mvT hZ (hw _ (List.mem_of_getElem? (i := 25) rfl))) rfl (hb hby d1_49)) ?_
                show Goes p e below _ (s₁.setTop (mkF m 51 #[.val (.int p0)] [(.int (1114111 : Int32)), (.int p0)]))
                by_cases hc51 : (1114111 : Int32) < p0
                · refine Goes.go (fun t => XS.icmpYes X0.here hx rfl (pc0 := 51) (pc' := 58) rfl (hb hby d1_51) rfl (Jvm.Free.XT.ii_gt_t hc51) (by decide) (by decide)) ?_
                  show Goes p e below _ (s₁.setTop (mkF m 58 #[.val (.int p0)] []))
                  refine Goes.go (fun t => XS.iconst X0.here hx rfl (hb hby d1_58)) ?_
                  show Goes p e below _ (s₁.setTop (mkF m 59 #[.val (.int p0)] [(.int (0 : Int32))]))
                  exact Goes.out X0 (fun h => by rw [Bd.returns] at h; cases h) Bd.notSynchronized (fun fs hr => retN X0 hx (t := .boolean) Bd.returns (by simp) (hb hby d1_59) hr) ⟨own_x0 (by unfold own_px; simp only [Int32.lt_iff_toInt_lt, ← Int32.toInt_inj, Int32.reduceToInt] at hc3 hc15 hc21 hc27 hc33 hc39 hc45 hc51; omega), N0, e0⟩ (by decide) (by decide)
                · refine Goes.go (fun t => XS.icmpNo X0.here hx rfl (hb hby d1_51) rfl (Jvm.Free.XT.ii_gt_f hc51)) ?_
                  show Goes p e below _ (s₁.setTop (mkF m 54 #[.val (.int p0)] []))
                  refine Goes.go (fun t => XS.iconst X0.here hx rfl (hb hby d1_54)) ?_
                  show Goes p e below _ (s₁.setTop (mkF m 55 #[.val (.int p0)] [(.int (1 : Int32))]))
                  refine Goes.go (fun t => XS.goto X0.here hx rfl (pc0 := 55) (pc' := 59) rfl (hb hby d1_55) (by decide) (by decide)) ?_
                  show Goes p e below _ (s₁.setTop (mkF m 59 #[.val (.int p0)] [(.int (1 : Int32))]))
                  exact Goes.out X0 (fun h => by rw [Bd.returns] at h; cases h) Bd.notSynchronized (fun fs hr => retN X0 hx (t := .boolean) Bd.returns (by simp) (hb hby d1_59) hr) ⟨own_x1 (by unfold own_px; simp only [Int32.lt_iff_toInt_lt, ← Int32.toInt_inj, Int32.reduceToInt] at hc3 hc15 hc21 hc27 hc33 hc39 hc45 hc51; omega), N0, e0⟩ (by decide) (by decide)
            · refine Goes.go (fun t => XS.icmpYes X0.here hx rfl (pc0 := 39) (pc' := 54) rfl (hb hby d1_39) rfl (Jvm.Free.XT.ii_le_t hc39) (by decide) (by decide)) ?_
              show Goes p e below _ (s₁.setTop (mkF m 54 #[.val (.int p0)] []))
              refine Goes.go (fun t => XS.iconst X0.here hx rfl (hb hby d1_54)) ?_
              show Goes p e below _ (s₁.setTop (mkF m 55 #[.val (.int p0)] [(.int (1 : Int32))]))
              refine Goes.go (fun t => XS.goto X0.here hx rfl (pc0 := 55) (pc' := 59) rfl (hb hby d1_55) (by decide) (by decide)) ?_
              show Goes p e below _ (s₁.setTop (mkF m 59 #[.val (.int p0)] [(.int (1 : Int32))]))
              exact Goes.out X0 (fun h => by rw [Bd.returns] at h; cases h) Bd.notSynchronized (fun fs hr => retN X0 hx (t := .boolean) Bd.returns (by simp) (hb hby d1_59) hr) ⟨own_x1 (by unfold own_px; simp only [Int32.lt_iff_toInt_lt, ← Int32.toInt_inj, Int32.reduceToInt] at hc3 hc15 hc21 hc27 hc33 hc39; omega), N0, e0⟩ (by decide) (by decide)
  · refine Goes.go (fun t => XS.icmpNo X0.here hx rfl (hb hby d1_3) rfl (Jvm.Free.XT.ii_lt_f hc3)) ?_
    show Goes p e below _ (s₁.setTop (mkF m 6 #[.val (.int p0)] []))
    refine Goes.go (fun t => XS.iloadN X0.here hx rfl (hb hby d1_6) rfl ) ?_
    show Goes p e below _ (s₁.setTop (mkF m 7 #[.val (.int p0)] [(.int p0)]))
    refine Goes.go (fun t => X0.ldcI hx hown (mvT hZ (hw _ (List.mem_of_getElem? (i := 23) rfl))) rfl (hb hby d1_7)) ?_
    show Goes p e below _ (s₁.setTop (mkF m 9 #[.val (.int p0)] [(.int (55295 : Int32)), (.int p0)]))
    by_cases hc9 : (55295 : Int32) < p0
    · refine Goes.go (fun t => XS.icmpNo X0.here hx rfl (hb hby d1_9) rfl (Jvm.Free.XT.ii_le_f hc9)) ?_
      show Goes p e below _ (s₁.setTop (mkF m 12 #[.val (.int p0)] []))
      refine Goes.go (fun t => XS.iloadN X0.here hx rfl (hb hby d1_12) rfl ) ?_
      show Goes p e below _ (s₁.setTop (mkF m 13 #[.val (.int p0)] [(.int p0)]))
      refine Goes.go (fun t => XS.bipush X0.here hx rfl (hb hby d1_13)) ?_
      show Goes p e below _ (s₁.setTop (mkF m 15 #[.val (.int p0)] [(.int (10 : Int32)), (.int p0)]))
      by_cases hc15 : p0 = (10 : Int32)
      · refine Goes.go (fun t => XS.icmpYes X0.here hx rfl (pc0 := 15) (pc' := 54) rfl (hb hby d1_15) rfl (Jvm.Free.XT.ii_eq_t hc15) (by decide) (by decide)) ?_
        show Goes p e below _ (s₁.setTop (mkF m 54 #[.val (.int p0)] []))
        refine Goes.go (fun t => XS.iconst X0.here hx rfl (hb hby d1_54)) ?_
        show Goes p e below _ (s₁.setTop (mkF m 55 #[.val (.int p0)] [(.int (1 : Int32))]))
        refine Goes.go (fun t => XS.goto X0.here hx rfl (pc0 := 55) (pc' := 59) rfl (hb hby d1_55) (by decide) (by decide)) ?_
        show Goes p e below _ (s₁.setTop (mkF m 59 #[.val (.int p0)] [(.int (1 : Int32))]))
        exact Goes.out X0 (fun h => by rw [Bd.returns] at h; cases h) Bd.notSynchronized (fun fs hr => retN X0 hx (t := .boolean) Bd.returns (by simp) (hb hby d1_59) hr) ⟨own_x1 (by unfold own_px; simp only [Int32.lt_iff_toInt_lt, ← Int32.toInt_inj, Int32.reduceToInt] at hc3 hc9 hc15; omega), N0, e0⟩ (by decide) (by decide)
      · refine Goes.go (fun t => XS.icmpNo X0.here hx rfl (hb hby d1_15) rfl (Jvm.Free.XT.ii_eq_f hc15)) ?_
        show Goes p e below _ (s₁.setTop (mkF m 18 #[.val (.int p0)] []))
        refine Goes.go (fun t => XS.iloadN X0.here hx rfl (hb hby d1_18) rfl ) ?_
        show Goes p e below _ (s₁.setTop (mkF m 19 #[.val (.int p0)] [(.int p0)]))
        refine Goes.go (fun t => XS.bipush X0.here hx rfl (hb hby d1_19)) ?_
        show Goes p e below _ (s₁.setTop (mkF m 21 #[.val (.int p0)] [(.int (9 : Int32)), (.int p0)]))
        by_cases hc21 : p0 = (9 : Int32)
        · refine Goes.go (fun t => XS.icmpYes X0.here hx rfl (pc0 := 21) (pc' := 54) rfl (hb hby d1_21) rfl (Jvm.Free.XT.ii_eq_t hc21) (by decide) (by decide)) ?_
          show Goes p e below _ (s₁.setTop (mkF m 54 #[.val (.int p0)] []))
          refine Goes.go (fun t => XS.iconst X0.here hx rfl (hb hby d1_54)) ?_
          show Goes p e below _ (s₁.setTop (mkF m 55 #[.val (.int p0)] [(.int (1 : Int32))]))
          refine Goes.go (fun t => XS.goto X0.here hx rfl (pc0 := 55) (pc' := 59) rfl (hb hby d1_55) (by decide) (by decide)) ?_
          show Goes p e below _ (s₁.setTop (mkF m 59 #[.val (.int p0)] [(.int (1 : Int32))]))
          exact Goes.out X0 (fun h => by rw [Bd.returns] at h; cases h) Bd.notSynchronized (fun fs hr => retN X0 hx (t := .boolean) Bd.returns (by simp) (hb hby d1_59) hr) ⟨own_x1 (by unfold own_px; simp only [Int32.lt_iff_toInt_lt, ← Int32.toInt_inj, Int32.reduceToInt] at hc3 hc9 hc15 hc21; omega), N0, e0⟩ (by decide) (by decide)
        · refine Goes.go (fun t => XS.icmpNo X0.here hx rfl (hb hby d1_21) rfl (Jvm.Free.XT.ii_eq_f hc21)) ?_
          show Goes p e below _ (s₁.setTop (mkF m 24 #[.val (.int p0)] []))
          refine Goes.go (fun t => XS.iloadN X0.here hx rfl (hb hby d1_24) rfl ) ?_
          show Goes p e below _ (s₁.setTop (mkF m 25 #[.val (.int p0)] [(.int p0)]))
          refine Goes.go (fun t => XS.bipush X0.here hx rfl (hb hby d1_25)) ?_
          show Goes p e below _ (s₁.setTop (mkF m 27 #[.val (.int p0)] [(.int (13 : Int32)), (.int p0)]))
          by_cases hc27 : p0 = (13 : Int32)
          · refine Goes.go (fun t => XS.icmpYes X0.here hx rfl (pc0 := 27) (pc' := 54) rfl (hb hby d1_27) rfl (Jvm.Free.XT.ii_eq_t hc27) (by decide) (by decide)) ?_
            show Goes p e below _ (s₁.setTop (mkF m 54 #[.val (.int p0)] []))
            refine Goes.go (fun t => XS.iconst X0.here hx rfl (hb hby d1_54)) ?_
            show Goes p e below _ (s₁.setTop (mkF m 55 #[.val (.int p0)] [(.int (1 : Int32))]))
            refine Goes.go (fun t => XS.goto X0.here hx rfl (pc0 := 55) (pc' := 59) rfl (hb hby d1_55) (by decide) (by decide)) ?_
            show Goes p e below _ (s₁.setTop (mkF m 59 #[.val (.int p0)] [(.int (1 : Int32))]))
            exact Goes.out X0 (fun h => by rw [Bd.returns] at h; cases h) Bd.notSynchronized (fun fs hr => retN X0 hx (t := .boolean) Bd.returns (by simp) (hb hby d1_59) hr) ⟨own_x1 (by unfold own_px; simp only [Int32.lt_iff_toInt_lt, ← Int32.toInt_inj, Int32.reduceToInt] at hc3 hc9 hc15 hc21 hc27; omega), N0, e0⟩ (by decide) (by decide)
          · refine Goes.go (fun t => XS.icmpNo X0.here hx rfl (hb hby d1_27) rfl (Jvm.Free.XT.ii_eq_f hc27)) ?_
            show Goes p e below _ (s₁.setTop (mkF m 30 #[.val (.int p0)] []))
            refine Goes.go (fun t => XS.iloadN X0.here hx rfl (hb hby d1_30) rfl ) ?_
            show Goes p e below _ (s₁.setTop (mkF m 31 #[.val (.int p0)] [(.int p0)]))
            refine Goes.go (fun t => X0.ldcI hx hown (mvT hZ (hw _ (List.mem_of_getElem? (i := 17) rfl))) rfl (hb hby d1_31)) ?_
            show Goes p e below _ (s₁.setTop (mkF m 33 #[.val (.int p0)] [(.int (57344 : Int32)), (.int p0)]))
            by_cases hc33 : p0 < (57344 : Int32)
            · refine Goes.go (fun t => XS.icmpYes X0.here hx rfl (pc0 := 33) (pc' := 42) rfl (hb hby d1_33) rfl (Jvm.Free.XT.ii_lt_t hc33) (by decide) (by decide)) ?_
              show Goes p e below _ (s₁.setTop (mkF m 42 #[.val (.int p0)] []))
              refine Goes.go (fun t => XS.iloadN X0.here hx rfl (hb hby d1_42) rfl ) ?_
              show Goes p e below _ (s₁.setTop (mkF m 43 #[.val (.int p0)] [(.int p0)]))
              refine Goes.go (fun t => X0.ldcI hx hown (mvT hZ (hw _ (List.mem_of_getElem? (i := 18) rfl))) rfl (hb hby d1_43)) ?_
              show Goes p e below _ (s₁.setTop (mkF m 45 #[.val (.int p0)] [(.int (65536 : Int32)), (.int p0)]))
              by_cases hc45 : p0 < (65536 : Int32)
              · refine Goes.go (fun t => XS.icmpYes X0.here hx rfl (pc0 := 45) (pc' := 58) rfl (hb hby d1_45) rfl (Jvm.Free.XT.ii_lt_t hc45) (by decide) (by decide)) ?_
                show Goes p e below _ (s₁.setTop (mkF m 58 #[.val (.int p0)] []))
                refine Goes.go (fun t => XS.iconst X0.here hx rfl (hb hby d1_58)) ?_
                show Goes p e below _ (s₁.setTop (mkF m 59 #[.val (.int p0)] [(.int (0 : Int32))]))
                exact Goes.out X0 (fun h => by rw [Bd.returns] at h; cases h) Bd.notSynchronized (fun fs hr => retN X0 hx (t := .boolean) Bd.returns (by simp) (hb hby d1_59) hr) ⟨own_x0 (by unfold own_px; simp only [Int32.lt_iff_toInt_lt, ← Int32.toInt_inj, Int32.reduceToInt] at hc3 hc9 hc15 hc21 hc27 hc33 hc45; omega), N0, e0⟩ (by decide) (by decide)
              · refine Goes.go (fun t => XS.icmpNo X0.here hx rfl (hb hby d1_45) rfl (Jvm.Free.XT.ii_lt_f hc45)) ?_
                show Goes p e below _ (s₁.setTop (mkF m 48 #[.val (.int p0)] []))
                refine Goes.go (fun t => XS.iloadN X0.here hx rfl (hb hby d1_48) rfl ) ?_
                show Goes p e below _ (s₁.setTop (mkF m 49 #[.val (.int p0)] [(.int p0)]))
                refine Goes.go (fun t => X0.ldcI hx hown (mvT hZ (hw _ (List.mem_of_getElem? (i := 25) rfl))) rfl (hb hby d1_49)) ?_
                show Goes p e below _ (s₁.setTop (mkF m 51 #[.val (.int p0)] [(.int (1114111 : Int32)), (.int p0)]))
                by_cases hc51 : (1114111 : Int32) < p0
                · refine Goes.go (fun t => XS.icmpYes X0.here hx rfl (pc0 := 51) (pc' := 58) rfl (hb hby d1_51) rfl (Jvm.Free.XT.ii_gt_t hc51) (by decide) (by decide)) ?_
                  show Goes p e below _ (s₁.setTop (mkF m 58 #[.val (.int p0)] []))
                  refine Goes.go (fun t => XS.iconst X0.here hx rfl (hb hby d1_58)) ?_
                  show Goes p e below _ (s₁.setTop (mkF m 59 #[.val (.int p0)] [(.int (0 : Int32))]))
                  exact Goes.out X0 (fun h => by rw [Bd.returns] at h; cases h) Bd.notSynchronized (fun fs hr => retN X0 hx (t := .boolean) Bd.returns (by simp) (hb hby d1_59) hr) ⟨own_x0 (by unfold own_px; simp only [Int32.lt_iff_toInt_lt, ← Int32.toInt_inj, Int32.reduceToInt] at hc3 hc9 hc15 hc21 hc27 hc33 hc45 hc51; omega), N0, e0⟩ (by decide) (by decide)
                · refine Goes.go (fun t => XS.icmpNo X0.here hx rfl (hb hby d1_51) rfl (Jvm.Free.XT.ii_gt_f hc51)) ?_
                  show Goes p e below _ (s₁.setTop (mkF m 54 #[.val (.int p0)] []))
                  refine Goes.go (fun t => XS.iconst X0.here hx rfl (hb hby d1_54)) ?_
                  show Goes p e below _ (s₁.setTop (mkF m 55 #[.val (.int p0)] [(.int (1 : Int32))]))
                  refine Goes.go (fun t => XS.goto X0.here hx rfl (pc0 := 55) (pc' := 59) rfl (hb hby d1_55) (by decide) (by decide)) ?_
                  show Goes p e below _ (s₁.setTop (mkF m 59 #[.val (.int p0)] [(.int (1 : Int32))]))
                  exact Goes.out X0 (fun h => by rw [Bd.returns] at h; cases h) Bd.notSynchronized (fun fs hr => retN X0 hx (t := .boolean) Bd.returns (by simp) (hb hby d1_59) hr) ⟨own_x1 (by unfold own_px; simp only [Int32.lt_iff_toInt_lt, ← Int32.toInt_inj, Int32.reduceToInt] at hc3 hc9 hc15 hc21 hc27 hc33 hc45 hc51; omega), N0, e0⟩ (by decide) (by decide)
            · refine Goes.go (fun t => XS.icmpNo X0.here hx rfl (hb hby d1_33) rfl (Jvm.Free.XT.ii_lt_f hc33)) ?_
              show Goes p e below _ (s₁.setTop (mkF m 36 #[.val (.int p0)] []))
              refine Goes.go (fun t => XS.iloadN X0.here hx rfl (hb hby d1_36) rfl ) ?_
              show Goes p e below _ (s₁.setTop (mkF m 37 #[.val (.int p0)] [(.int p0)]))
              refine Goes.go (fun t => X0.ldcI hx hown (mvT hZ (hw _ (List.mem_of_getElem? (i := 24) rfl))) rfl (hb hby d1_37)) ?_
              show Goes p e below _ (s₁.setTop (mkF m 39 #[.val (.int p0)] [(.int (65533 : Int32)), (.int p0)]))
              by_cases hc39 : (65533 : Int32) < p0
              · refine Goes.go (fun t => XS.icmpNo X0.here hx rfl (hb hby d1_39) rfl (Jvm.Free.XT.ii_le_f hc39)) ?_
                show Goes p e below _ (s₁.setTop (mkF m 42 #[.val (.int p0)] []))
                refine Goes.go (fun t => XS.iloadN X0.here hx rfl (hb hby d1_42) rfl ) ?_
                show Goes p e below _ (s₁.setTop (mkF m 43 #[.val (.int p0)] [(.int p0)]))
                refine Goes.go (fun t => X0.ldcI hx hown (mvT hZ (hw _ (List.mem_of_getElem? (i := 18) rfl))) rfl (hb hby d1_43)) ?_
                show Goes p e below _ (s₁.setTop (mkF m 45 #[.val (.int p0)] [(.int (65536 : Int32)), (.int p0)]))
                by_cases hc45 : p0 < (65536 : Int32)
                · refine Goes.go (fun t => XS.icmpYes X0.here hx rfl (pc0 := 45) (pc' := 58) rfl (hb hby d1_45) rfl (Jvm.Free.XT.ii_lt_t hc45) (by decide) (by decide)) ?_
                  show Goes p e below _ (s₁.setTop (mkF m 58 #[.val (.int p0)] []))
                  refine Goes.go (fun t => XS.iconst X0.here hx rfl (hb hby d1_58)) ?_
                  show Goes p e below _ (s₁.setTop (mkF m 59 #[.val (.int p0)] [(.int (0 : Int32))]))
                  exact Goes.out X0 (fun h => by rw [Bd.returns] at h; cases h) Bd.notSynchronized (fun fs hr => retN X0 hx (t := .boolean) Bd.returns (by simp) (hb hby d1_59) hr) ⟨own_x0 (by unfold own_px; simp only [Int32.lt_iff_toInt_lt, ← Int32.toInt_inj, Int32.reduceToInt] at hc3 hc9 hc15 hc21 hc27 hc33 hc39 hc45; omega), N0, e0⟩ (by decide) (by decide)
                · refine Goes.go (fun t => XS.icmpNo X0.here hx rfl (hb hby d1_45) rfl (Jvm.Free.XT.ii_lt_f hc45)) ?_
                  show Goes p e below _ (s₁.setTop (mkF m 48 #[.val (.int p0)] []))
                  refine Goes.go (fun t => XS.iloadN X0.here hx rfl (hb hby d1_48) rfl ) ?_
                  show Goes p e below _ (s₁.setTop (mkF m 49 #[.val (.int p0)] [(.int p0)]))
                  refine Goes.go (fun t => X0.ldcI hx hown (mvT hZ (hw _ (List.mem_of_getElem? (i := 25) rfl))) rfl (hb hby d1_49)) ?_
                  show Goes p e below _ (s₁.setTop (mkF m 51 #[.val (.int p0)] [(.int (1114111 : Int32)), (.int p0)]))
                  by_cases hc51 : (1114111 : Int32) < p0
                  · refine Goes.go (fun t => XS.icmpYes X0.here hx rfl (pc0 := 51) (pc' := 58) rfl (hb hby d1_51) rfl (Jvm.Free.XT.ii_gt_t hc51) (by decide) (by decide)) ?_
                    show Goes p e below _ (s₁.setTop (mkF m 58 #[.val (.int p0)] []))
                    refine Goes.go (fun t => XS.iconst X0.here hx rfl (hb hby d1_58)) ?_
                    show Goes p e below _ (s₁.setTop (mkF m 59 #[.val (.int p0)] [(.int (0 : Int32))]))
                    exact Goes.out X0 (fun h => by rw [Bd.returns] at h; cases h) Bd.notSynchronized (fun fs hr => retN X0 hx (t := .boolean) Bd.returns (by simp) (hb hby d1_59) hr) ⟨own_x0 (by unfold own_px; simp only [Int32.lt_iff_toInt_lt, ← Int32.toInt_inj, Int32.reduceToInt] at hc3 hc9 hc15 hc21 hc27 hc33 hc39 hc45 hc51; omega), N0, e0⟩ (by decide) (by decide)
                  · refine Goes.go (fun t => XS.icmpNo X0.here hx rfl (hb hby d1_51) rfl (Jvm.Free.XT.ii_gt_f hc51)) ?_
                    show Goes p e below _ (s₁.setTop (mkF m 54 #[.val (.int p0)] []))
                    refine Goes.go (fun t => XS.iconst X0.here hx rfl (hb hby d1_54)) ?_
                    show Goes p e below _ (s₁.setTop (mkF m 55 #[.val (.int p0)] [(.int (1 : Int32))]))
                    refine Goes.go (fun t => XS.goto X0.here hx rfl (pc0 := 55) (pc' := 59) rfl (hb hby d1_55) (by decide) (by decide)) ?_
                    show Goes p e below _ (s₁.setTop (mkF m 59 #[.val (.int p0)] [(.int (1 : Int32))]))
                    exact Goes.out X0 (fun h => by rw [Bd.returns] at h; cases h) Bd.notSynchronized (fun fs hr => retN X0 hx (t := .boolean) Bd.returns (by simp) (hb hby d1_59) hr) ⟨own_x1 (by unfold own_px; simp only [Int32.lt_iff_toInt_lt, ← Int32.toInt_inj, Int32.reduceToInt] at hc3 hc9 hc15 hc21 hc27 hc33 hc39 hc45 hc51; omega), N0, e0⟩ (by decide) (by decide)
              · refine Goes.go (fun t => XS.icmpYes X0.here hx rfl (pc0 := 39) (pc' := 54) rfl (hb hby d1_39) rfl (Jvm.Free.XT.ii_le_t hc39) (by decide) (by decide)) ?_
                show Goes p e below _ (s₁.setTop (mkF m 54 #[.val (.int p0)] []))
                refine Goes.go (fun t => XS.iconst X0.here hx rfl (hb hby d1_54)) ?_
                show Goes p e below _ (s₁.setTop (mkF m 55 #[.val (.int p0)] [(.int (1 : Int32))]))
                refine Goes.go (fun t => XS.goto X0.here hx rfl (pc0 := 55) (pc' := 59) rfl (hb hby d1_55) (by decide) (by decide)) ?_
                show Goes p e below _ (s₁.setTop (mkF m 59 #[.val (.int p0)] [(.int (1 : Int32))]))
                exact Goes.out X0 (fun h => by rw [Bd.returns] at h; cases h) Bd.notSynchronized (fun fs hr => retN X0 hx (t := .boolean) Bd.returns (by simp) (hb hby d1_59) hr) ⟨own_x1 (by unfold own_px; simp only [Int32.lt_iff_toInt_lt, ← Int32.toInt_inj, Int32.reduceToInt] at hc3 hc9 hc15 hc21 hc27 hc33 hc39; omega), N0, e0⟩ (by decide) (by decide)
    · refine Goes.go (fun t => XS.icmpYes X0.here hx rfl (pc0 := 9) (pc' := 54) rfl (hb hby d1_9) rfl (Jvm.Free.XT.ii_le_t hc9) (by decide) (by decide)) ?_
      show Goes p e below _ (s₁.setTop (mkF m 54 #[.val (.int p0)] []))
      refine Goes.go (fun t => XS.iconst X0.here hx rfl (hb hby d1_54)) ?_
      show Goes p e below _ (s₁.setTop (mkF m 55 #[.val (.int p0)] [(.int (1 : Int32))]))
      refine Goes.go (fun t => XS.goto X0.here hx rfl (pc0 := 55) (pc' := 59) rfl (hb hby d1_55) (by decide) (by decide)) ?_
      show Goes p e below _ (s₁.setTop (mkF m 59 #[.val (.int p0)] [(.int (1 : Int32))]))
      exact Goes.out X0 (fun h => by rw [Bd.returns] at h; cases h) Bd.notSynchronized (fun fs hr => retN X0 hx (t := .boolean) Bd.returns (by simp) (hb hby d1_59) hr) ⟨own_x1 (by unfold own_px; simp only [Int32.lt_iff_toInt_lt, ← Int32.toInt_inj, Int32.reduceToInt] at hc3 hc9; omega), N0, e0⟩ (by decide) (by decide)
theorem d2_0 : decode method_2_code 0 = .ok (.iload_n 0, 1) := by decide +kernel
theorem d2_1 : decode method_2_code 1 = .ok (.ifCond .lt 9, 3) := by decide +kernel
theorem d2_4 : decode method_2_code 4 = .ok (.iload_n 0, 1) := by decide +kernel
theorem d2_5 : decode method_2_code 5 = .ok (.ldc 7, 2) := by decide +kernel
theorem d2_7 : decode method_2_code 7 = .ok (.if_icmp .le 5, 3) := by decide +kernel
theorem d2_10 : decode method_2_code 10 = .ok (.iconst 0, 1) := by decide +kernel
theorem d2_11 : decode method_2_code 11 = .ok (.ireturn, 1) := by decide +kernel
theorem d2_12 : decode method_2_code 12 = .ok (.iload_n 0, 1) := by decide +kernel
theorem d2_13 : decode method_2_code 13 = .ok (.bipush 32, 2) := by decide +kernel
theorem d2_15 : decode method_2_code 15 = .ok (.if_icmp .ge 27, 3) := by decide +kernel
theorem d2_18 : decode method_2_code 18 = .ok (.iload_n 0, 1) := by decide +kernel
theorem d2_19 : decode method_2_code 19 = .ok (.bipush 9, 2) := by decide +kernel
theorem d2_21 : decode method_2_code 21 = .ok (.if_icmp .eq 15, 3) := by decide +kernel
theorem d2_24 : decode method_2_code 24 = .ok (.iload_n 0, 1) := by decide +kernel
theorem d2_25 : decode method_2_code 25 = .ok (.bipush 10, 2) := by decide +kernel
theorem d2_27 : decode method_2_code 27 = .ok (.if_icmp .eq 9, 3) := by decide +kernel
theorem d2_30 : decode method_2_code 30 = .ok (.iload_n 0, 1) := by decide +kernel
theorem d2_31 : decode method_2_code 31 = .ok (.bipush 13, 2) := by decide +kernel
theorem d2_33 : decode method_2_code 33 = .ok (.if_icmp .ne 7, 3) := by decide +kernel
theorem d2_36 : decode method_2_code 36 = .ok (.iconst 1, 1) := by decide +kernel
theorem d2_37 : decode method_2_code 37 = .ok (.goto 4, 3) := by decide +kernel
theorem d2_40 : decode method_2_code 40 = .ok (.iconst 0, 1) := by decide +kernel
theorem d2_41 : decode method_2_code 41 = .ok (.ireturn, 1) := by decide +kernel
theorem d2_42 : decode method_2_code 42 = .ok (.iload_n 0, 1) := by decide +kernel
theorem d2_43 : decode method_2_code 43 = .ok (.ldc 8, 2) := by decide +kernel
theorem d2_45 : decode method_2_code 45 = .ok (.if_icmp .lt 11, 3) := by decide +kernel
theorem d2_48 : decode method_2_code 48 = .ok (.iload_n 0, 1) := by decide +kernel
theorem d2_49 : decode method_2_code 49 = .ok (.ldc 9, 2) := by decide +kernel
theorem d2_51 : decode method_2_code 51 = .ok (.if_icmp .gt 5, 3) := by decide +kernel
theorem d2_54 : decode method_2_code 54 = .ok (.iconst 0, 1) := by decide +kernel
theorem d2_55 : decode method_2_code 55 = .ok (.ireturn, 1) := by decide +kernel
theorem d2_56 : decode method_2_code 56 = .ok (.iload_n 0, 1) := by decide +kernel
theorem d2_57 : decode method_2_code 57 = .ok (.ldc 10, 2) := by decide +kernel
theorem d2_59 : decode method_2_code 59 = .ok (.if_icmp .eq 9, 3) := by decide +kernel
theorem d2_62 : decode method_2_code 62 = .ok (.iload_n 0, 1) := by decide +kernel
theorem d2_63 : decode method_2_code 63 = .ok (.ldc 11, 2) := by decide +kernel
theorem d2_65 : decode method_2_code 65 = .ok (.if_icmp .ne 5, 3) := by decide +kernel
theorem d2_68 : decode method_2_code 68 = .ok (.iconst 0, 1) := by decide +kernel
theorem d2_69 : decode method_2_code 69 = .ok (.ireturn, 1) := by decide +kernel
theorem d2_70 : decode method_2_code 70 = .ok (.iconst 1, 1) := by decide +kernel
theorem d2_71 : decode method_2_code 71 = .ok (.ireturn, 1) := by decide +kernel
theorem pn_2 : plainName "com/example/thames/thames/model/XmlCharactersIsXmlCharacterPinLaw" = true := by first | (simp [plainName, overriddenIn]; done) | decide +kernel
theorem ef_2 (m : MethodId) (p0 : Int32) : entryFrame m #[(.int p0)] 1 = mkF m 0 #[.val (.int p0)] [] := by first | (simp [entryFrame, mkF, argsToLocals, Value.category]; done) | rfl
def Q2 (Z : State) (p0 : Int32) (h0 : Heap) (n0 : Nat) (v : Option Value) (h : Heap) (L : List Loc) : Prop := v = some (.int (own_xv p0)) ∧ Fr n0 L ∧ h = h0
set_option maxRecDepth 65536 in
set_option maxHeartbeats 40000000 in
theorem rm2 (l : Launch) (Z : State) (a0 : Array Value) (hw : ∀ d ∈ tables_1, d.before a0 Z = true) (ws : List Jvm.Cond) (p0 : Int32) (h0 : Heap) (n0 : Nat) (Z0 : n0 ≤ h0.size) :
    MetFree l (⟨"com/example/thames/thames/model/XmlCharactersIsXmlCharacterPinLaw", "expected", "(I)Z"⟩ : MethodName) (head1 (Jvm.Cond.code (⟨"com/example/thames/thames/model/XmlCharactersIsXmlCharacterPinLaw", "expected", "(I)Z"⟩ : MethodName) method_2_code 1 (some .boolean) :: ws) ({ frames := 0, cells := 0, slots := 0, locals := 0 } : Room)) (fun a U => a = #[(.int p0)] ∧ Z.Warmed39 U.vm ∧ U.heap = h0) (fun _ _ _ _ _ => True) (fun _ U o U' => ∃ v L, o = .returned v ∧ Q2 Z p0 h0 n0 v U'.heap L ∧ FrameEnd U o U' L ({ frames := 0, cells := 0, slots := 0, locals := 0 } : Room).cells ({ frames := 0, cells := 0, slots := 0, locals := 0 } : Room).slots) := by
  refine MetFree.of_bodySF (plainFor_of_name pn_2) hisR ?_
  intro p e s m args below meth c s₁ Bd hml0 hP hK
  obtain ⟨rfl, hZ, hh⟩ := hP
  have hx := Bd.exec
  have hby := Bd.bytes
  have hml : c.maxLocals = 1 := hml0
  have hown : s.vm.findClass "com/example/thames/thames/model/XmlCharactersIsXmlCharacterPinLaw" = some m.cls := findClass_of_methodNamed Bd.named
  have hnm := (name_of_methodNamed Bd.named Bd.method).1
  have X0 : Stand p l e ({ frames := 0, cells := 0, slots := 0, locals := 0 } : Room) s m #[(.int p0)] below meth c s₁ [] 0 0 := Stand.of_body Bd
  have e0 : s₁.heap = h0 := by rw [← hh, Bd.state]; rfl
  have N0 := Fr.nil n0
  show Goes p e below (fun o U' => ∃ v L, o = .returned v ∧ Q2 Z p0 h0 n0 v U'.heap L ∧ FrameEnd s o U' L ({ frames := 0, cells := 0, slots := 0, locals := 0 } : Room).cells ({ frames := 0, cells := 0, slots := 0, locals := 0 } : Room).slots) _
  refine Goes.go (fun t k => castTop (ef_2 m p0) k) ?_
  show Goes p e below _ (s₁.setTop (mkF m 0 #[.val (.int p0)] []))
  refine Goes.go (fun t => XS.iloadN X0.here hx rfl (hb hby d2_0) rfl ) ?_
  show Goes p e below _ (s₁.setTop (mkF m 1 #[.val (.int p0)] [(.int p0)]))
  by_cases hc1 : p0 < (0 : Int32)
  · refine Goes.go (fun t => XS.ifYes X0.here hx rfl (pc0 := 1) (pc' := 10) rfl (hb hby d2_1) rfl (Jvm.Free.XT.i0_lt_t hc1) (by decide) (by decide)) ?_
    show Goes p e below _ (s₁.setTop (mkF m 10 #[.val (.int p0)] []))
    refine Goes.go (fun t => XS.iconst X0.here hx rfl (hb hby d2_10)) ?_
    show Goes p e below _ (s₁.setTop (mkF m 11 #[.val (.int p0)] [(.int (0 : Int32))]))
    exact Goes.out X0 (fun h => by rw [Bd.returns] at h; cases h) Bd.notSynchronized (fun fs hr => retN X0 hx (t := .boolean) Bd.returns (by simp) (hb hby d2_11) hr) ⟨own_x0 (by unfold own_px; simp only [Int32.lt_iff_toInt_lt, ← Int32.toInt_inj, Int32.reduceToInt] at hc1; omega), N0, e0⟩ (by decide) (by decide)
  · refine Goes.go (fun t => XS.ifNo X0.here hx rfl (hb hby d2_1) rfl (Jvm.Free.XT.i0_lt_f hc1)) ?_
    show Goes p e below _ (s₁.setTop (mkF m 4 #[.val (.int p0)] []))
    refine Goes.go (fun t => XS.iloadN X0.here hx rfl (hb hby d2_4) rfl ) ?_
    show Goes p e below _ (s₁.setTop (mkF m 5 #[.val (.int p0)] [(.int p0)]))
    refine Goes.go (fun t => X0.ldcI hx hown (mvT hZ (hw _ (List.mem_of_getElem? (i := 9) rfl))) rfl (hb hby d2_5)) ?_
    show Goes p e below _ (s₁.setTop (mkF m 7 #[.val (.int p0)] [(.int (1114111 : Int32)), (.int p0)]))
    by_cases hc7 : (1114111 : Int32) < p0
    · refine Goes.go (fun t => XS.icmpNo X0.here hx rfl (hb hby d2_7) rfl (Jvm.Free.XT.ii_le_f hc7)) ?_
      show Goes p e below _ (s₁.setTop (mkF m 10 #[.val (.int p0)] []))
      refine Goes.go (fun t => XS.iconst X0.here hx rfl (hb hby d2_10)) ?_
      show Goes p e below _ (s₁.setTop (mkF m 11 #[.val (.int p0)] [(.int (0 : Int32))]))
      exact Goes.out X0 (fun h => by rw [Bd.returns] at h; cases h) Bd.notSynchronized (fun fs hr => retN X0 hx (t := .boolean) Bd.returns (by simp) (hb hby d2_11) hr) ⟨own_x0 (by unfold own_px; simp only [Int32.lt_iff_toInt_lt, ← Int32.toInt_inj, Int32.reduceToInt] at hc1 hc7; omega), N0, e0⟩ (by decide) (by decide)
    · refine Goes.go (fun t => XS.icmpYes X0.here hx rfl (pc0 := 7) (pc' := 12) rfl (hb hby d2_7) rfl (Jvm.Free.XT.ii_le_t hc7) (by decide) (by decide)) ?_
      show Goes p e below _ (s₁.setTop (mkF m 12 #[.val (.int p0)] []))
      refine Goes.go (fun t => XS.iloadN X0.here hx rfl (hb hby d2_12) rfl ) ?_
      show Goes p e below _ (s₁.setTop (mkF m 13 #[.val (.int p0)] [(.int p0)]))
      refine Goes.go (fun t => XS.bipush X0.here hx rfl (hb hby d2_13)) ?_
      show Goes p e below _ (s₁.setTop (mkF m 15 #[.val (.int p0)] [(.int (32 : Int32)), (.int p0)]))
      by_cases hc15 : p0 < (32 : Int32)
      · refine Goes.go (fun t => XS.icmpNo X0.here hx rfl (hb hby d2_15) rfl (Jvm.Free.XT.ii_ge_f hc15)) ?_
        show Goes p e below _ (s₁.setTop (mkF m 18 #[.val (.int p0)] []))
        refine Goes.go (fun t => XS.iloadN X0.here hx rfl (hb hby d2_18) rfl ) ?_
        show Goes p e below _ (s₁.setTop (mkF m 19 #[.val (.int p0)] [(.int p0)]))
        refine Goes.go (fun t => XS.bipush X0.here hx rfl (hb hby d2_19)) ?_
        show Goes p e below _ (s₁.setTop (mkF m 21 #[.val (.int p0)] [(.int (9 : Int32)), (.int p0)]))
        by_cases hc21 : p0 = (9 : Int32)
        · refine Goes.go (fun t => XS.icmpYes X0.here hx rfl (pc0 := 21) (pc' := 36) rfl (hb hby d2_21) rfl (Jvm.Free.XT.ii_eq_t hc21) (by decide) (by decide)) ?_
          show Goes p e below _ (s₁.setTop (mkF m 36 #[.val (.int p0)] []))
          refine Goes.go (fun t => XS.iconst X0.here hx rfl (hb hby d2_36)) ?_
          show Goes p e below _ (s₁.setTop (mkF m 37 #[.val (.int p0)] [(.int (1 : Int32))]))
          refine Goes.go (fun t => XS.goto X0.here hx rfl (pc0 := 37) (pc' := 41) rfl (hb hby d2_37) (by decide) (by decide)) ?_
          show Goes p e below _ (s₁.setTop (mkF m 41 #[.val (.int p0)] [(.int (1 : Int32))]))
          exact Goes.out X0 (fun h => by rw [Bd.returns] at h; cases h) Bd.notSynchronized (fun fs hr => retN X0 hx (t := .boolean) Bd.returns (by simp) (hb hby d2_41) hr) ⟨own_x1 (by unfold own_px; simp only [Int32.lt_iff_toInt_lt, ← Int32.toInt_inj, Int32.reduceToInt] at hc1 hc7 hc15 hc21; omega), N0, e0⟩ (by decide) (by decide)
        · refine Goes.go (fun t => XS.icmpNo X0.here hx rfl (hb hby d2_21) rfl (Jvm.Free.XT.ii_eq_f hc21)) ?_
          show Goes p e below _ (s₁.setTop (mkF m 24 #[.val (.int p0)] []))
          refine Goes.go (fun t => XS.iloadN X0.here hx rfl (hb hby d2_24) rfl ) ?_
          show Goes p e below _ (s₁.setTop (mkF m 25 #[.val (.int p0)] [(.int p0)]))
          refine Goes.go (fun t => XS.bipush X0.here hx rfl (hb hby d2_25)) ?_
          show Goes p e below _ (s₁.setTop (mkF m 27 #[.val (.int p0)] [(.int (10 : Int32)), (.int p0)]))
          by_cases hc27 : p0 = (10 : Int32)
          · refine Goes.go (fun t => XS.icmpYes X0.here hx rfl (pc0 := 27) (pc' := 36) rfl (hb hby d2_27) rfl (Jvm.Free.XT.ii_eq_t hc27) (by decide) (by decide)) ?_
            show Goes p e below _ (s₁.setTop (mkF m 36 #[.val (.int p0)] []))
            refine Goes.go (fun t => XS.iconst X0.here hx rfl (hb hby d2_36)) ?_
            show Goes p e below _ (s₁.setTop (mkF m 37 #[.val (.int p0)] [(.int (1 : Int32))]))
            refine Goes.go (fun t => XS.goto X0.here hx rfl (pc0 := 37) (pc' := 41) rfl (hb hby d2_37) (by decide) (by decide)) ?_
            show Goes p e below _ (s₁.setTop (mkF m 41 #[.val (.int p0)] [(.int (1 : Int32))]))
            exact Goes.out X0 (fun h => by rw [Bd.returns] at h; cases h) Bd.notSynchronized (fun fs hr => retN X0 hx (t := .boolean) Bd.returns (by simp) (hb hby d2_41) hr) ⟨own_x1 (by unfold own_px; simp only [Int32.lt_iff_toInt_lt, ← Int32.toInt_inj, Int32.reduceToInt] at hc1 hc7 hc15 hc21 hc27; omega), N0, e0⟩ (by decide) (by decide)
          · refine Goes.go (fun t => XS.icmpNo X0.here hx rfl (hb hby d2_27) rfl (Jvm.Free.XT.ii_eq_f hc27)) ?_
            show Goes p e below _ (s₁.setTop (mkF m 30 #[.val (.int p0)] []))
            refine Goes.go (fun t => XS.iloadN X0.here hx rfl (hb hby d2_30) rfl ) ?_
            show Goes p e below _ (s₁.setTop (mkF m 31 #[.val (.int p0)] [(.int p0)]))
            refine Goes.go (fun t => XS.bipush X0.here hx rfl (hb hby d2_31)) ?_
            show Goes p e below _ (s₁.setTop (mkF m 33 #[.val (.int p0)] [(.int (13 : Int32)), (.int p0)]))
            by_cases hc33 : p0 = (13 : Int32)
            · refine Goes.go (fun t => XS.icmpNo X0.here hx rfl (hb hby d2_33) rfl (Jvm.Free.XT.ii_ne_f hc33)) ?_
              show Goes p e below _ (s₁.setTop (mkF m 36 #[.val (.int p0)] []))
              refine Goes.go (fun t => XS.iconst X0.here hx rfl (hb hby d2_36)) ?_
              show Goes p e below _ (s₁.setTop (mkF m 37 #[.val (.int p0)] [(.int (1 : Int32))]))
              refine Goes.go (fun t => XS.goto X0.here hx rfl (pc0 := 37) (pc' := 41) rfl (hb hby d2_37) (by decide) (by decide)) ?_
              show Goes p e below _ (s₁.setTop (mkF m 41 #[.val (.int p0)] [(.int (1 : Int32))]))
              exact Goes.out X0 (fun h => by rw [Bd.returns] at h; cases h) Bd.notSynchronized (fun fs hr => retN X0 hx (t := .boolean) Bd.returns (by simp) (hb hby d2_41) hr) ⟨own_x1 (by unfold own_px; simp only [Int32.lt_iff_toInt_lt, ← Int32.toInt_inj, Int32.reduceToInt] at hc1 hc7 hc15 hc21 hc27 hc33; omega), N0, e0⟩ (by decide) (by decide)
            · refine Goes.go (fun t => XS.icmpYes X0.here hx rfl (pc0 := 33) (pc' := 40) rfl (hb hby d2_33) rfl (Jvm.Free.XT.ii_ne_t hc33) (by decide) (by decide)) ?_
              show Goes p e below _ (s₁.setTop (mkF m 40 #[.val (.int p0)] []))
              refine Goes.go (fun t => XS.iconst X0.here hx rfl (hb hby d2_40)) ?_
              show Goes p e below _ (s₁.setTop (mkF m 41 #[.val (.int p0)] [(.int (0 : Int32))]))
              exact Goes.out X0 (fun h => by rw [Bd.returns] at h; cases h) Bd.notSynchronized (fun fs hr => retN X0 hx (t := .boolean) Bd.returns (by simp) (hb hby d2_41) hr) ⟨own_x0 (by unfold own_px; simp only [Int32.lt_iff_toInt_lt, ← Int32.toInt_inj, Int32.reduceToInt] at hc1 hc7 hc15 hc21 hc27 hc33; omega), N0, e0⟩ (by decide) (by decide)
      · refine Goes.go (fun t => XS.icmpYes X0.here hx rfl (pc0 := 15) (pc' := 42) rfl (hb hby d2_15) rfl (Jvm.Free.XT.ii_ge_t hc15) (by decide) (by decide)) ?_
        show Goes p e below _ (s₁.setTop (mkF m 42 #[.val (.int p0)] []))
        refine Goes.go (fun t => XS.iloadN X0.here hx rfl (hb hby d2_42) rfl ) ?_
        show Goes p e below _ (s₁.setTop (mkF m 43 #[.val (.int p0)] [(.int p0)]))
        refine Goes.go (fun t => X0.ldcI hx hown (mvT hZ (hw _ (List.mem_of_getElem? (i := 2) rfl))) rfl (hb hby d2_43)) ?_
        show Goes p e below _ (s₁.setTop (mkF m 45 #[.val (.int p0)] [(.int (55296 : Int32)), (.int p0)]))
        by_cases hc45 : p0 < (55296 : Int32)
        · refine Goes.go (fun t => XS.icmpYes X0.here hx rfl (pc0 := 45) (pc' := 56) rfl (hb hby d2_45) rfl (Jvm.Free.XT.ii_lt_t hc45) (by decide) (by decide)) ?_
          show Goes p e below _ (s₁.setTop (mkF m 56 #[.val (.int p0)] []))
          refine Goes.go (fun t => XS.iloadN X0.here hx rfl (hb hby d2_56) rfl ) ?_
          show Goes p e below _ (s₁.setTop (mkF m 57 #[.val (.int p0)] [(.int p0)]))
          refine Goes.go (fun t => X0.ldcI hx hown (mvT hZ (hw _ (List.mem_of_getElem? (i := 6) rfl))) rfl (hb hby d2_57)) ?_
          show Goes p e below _ (s₁.setTop (mkF m 59 #[.val (.int p0)] [(.int (65534 : Int32)), (.int p0)]))
          by_cases hc59 : p0 = (65534 : Int32)
          · refine Goes.go (fun t => XS.icmpYes X0.here hx rfl (pc0 := 59) (pc' := 68) rfl (hb hby d2_59) rfl (Jvm.Free.XT.ii_eq_t hc59) (by decide) (by decide)) ?_
            show Goes p e below _ (s₁.setTop (mkF m 68 #[.val (.int p0)] []))
            refine Goes.go (fun t => XS.iconst X0.here hx rfl (hb hby d2_68)) ?_
            show Goes p e below _ (s₁.setTop (mkF m 69 #[.val (.int p0)] [(.int (0 : Int32))]))
            exact Goes.out X0 (fun h => by rw [Bd.returns] at h; cases h) Bd.notSynchronized (fun fs hr => retN X0 hx (t := .boolean) Bd.returns (by simp) (hb hby d2_69) hr) ⟨own_x0 (by unfold own_px; simp only [Int32.lt_iff_toInt_lt, ← Int32.toInt_inj, Int32.reduceToInt] at hc1 hc7 hc15 hc45 hc59; omega), N0, e0⟩ (by decide) (by decide)
          · refine Goes.go (fun t => XS.icmpNo X0.here hx rfl (hb hby d2_59) rfl (Jvm.Free.XT.ii_eq_f hc59)) ?_
            show Goes p e below _ (s₁.setTop (mkF m 62 #[.val (.int p0)] []))
            refine Goes.go (fun t => XS.iloadN X0.here hx rfl (hb hby d2_62) rfl ) ?_
            show Goes p e below _ (s₁.setTop (mkF m 63 #[.val (.int p0)] [(.int p0)]))
            refine Goes.go (fun t => X0.ldcI hx hown (mvT hZ (hw _ (List.mem_of_getElem? (i := 7) rfl))) rfl (hb hby d2_63)) ?_
            show Goes p e below _ (s₁.setTop (mkF m 65 #[.val (.int p0)] [(.int (65535 : Int32)), (.int p0)]))
            by_cases hc65 : p0 = (65535 : Int32)
            · refine Goes.go (fun t => XS.icmpNo X0.here hx rfl (hb hby d2_65) rfl (Jvm.Free.XT.ii_ne_f hc65)) ?_
              show Goes p e below _ (s₁.setTop (mkF m 68 #[.val (.int p0)] []))
              refine Goes.go (fun t => XS.iconst X0.here hx rfl (hb hby d2_68)) ?_
              show Goes p e below _ (s₁.setTop (mkF m 69 #[.val (.int p0)] [(.int (0 : Int32))]))
              exact Goes.out X0 (fun h => by rw [Bd.returns] at h; cases h) Bd.notSynchronized (fun fs hr => retN X0 hx (t := .boolean) Bd.returns (by simp) (hb hby d2_69) hr) ⟨own_x0 (by unfold own_px; simp only [Int32.lt_iff_toInt_lt, ← Int32.toInt_inj, Int32.reduceToInt] at hc1 hc7 hc15 hc45 hc59 hc65; omega), N0, e0⟩ (by decide) (by decide)
            · refine Goes.go (fun t => XS.icmpYes X0.here hx rfl (pc0 := 65) (pc' := 70) rfl (hb hby d2_65) rfl (Jvm.Free.XT.ii_ne_t hc65) (by decide) (by decide)) ?_
              show Goes p e below _ (s₁.setTop (mkF m 70 #[.val (.int p0)] []))
              refine Goes.go (fun t => XS.iconst X0.here hx rfl (hb hby d2_70)) ?_
              show Goes p e below _ (s₁.setTop (mkF m 71 #[.val (.int p0)] [(.int (1 : Int32))]))
              exact Goes.out X0 (fun h => by rw [Bd.returns] at h; cases h) Bd.notSynchronized (fun fs hr => retN X0 hx (t := .boolean) Bd.returns (by simp) (hb hby d2_71) hr) ⟨own_x1 (by unfold own_px; simp only [Int32.lt_iff_toInt_lt, ← Int32.toInt_inj, Int32.reduceToInt] at hc1 hc7 hc15 hc45 hc59 hc65; omega), N0, e0⟩ (by decide) (by decide)
        · refine Goes.go (fun t => XS.icmpNo X0.here hx rfl (hb hby d2_45) rfl (Jvm.Free.XT.ii_lt_f hc45)) ?_
          show Goes p e below _ (s₁.setTop (mkF m 48 #[.val (.int p0)] []))
          refine Goes.go (fun t => XS.iloadN X0.here hx rfl (hb hby d2_48) rfl ) ?_
          show Goes p e below _ (s₁.setTop (mkF m 49 #[.val (.int p0)] [(.int p0)]))
          refine Goes.go (fun t => X0.ldcI hx hown (mvT hZ (hw _ (List.mem_of_getElem? (i := 3) rfl))) rfl (hb hby d2_49)) ?_
          show Goes p e below _ (s₁.setTop (mkF m 51 #[.val (.int p0)] [(.int (57343 : Int32)), (.int p0)]))
          by_cases hc51 : (57343 : Int32) < p0
          · refine Goes.go (fun t => XS.icmpYes X0.here hx rfl (pc0 := 51) (pc' := 56) rfl (hb hby d2_51) rfl (Jvm.Free.XT.ii_gt_t hc51) (by decide) (by decide)) ?_
            show Goes p e below _ (s₁.setTop (mkF m 56 #[.val (.int p0)] []))
            refine Goes.go (fun t => XS.iloadN X0.here hx rfl (hb hby d2_56) rfl ) ?_
            show Goes p e below _ (s₁.setTop (mkF m 57 #[.val (.int p0)] [(.int p0)]))
            refine Goes.go (fun t => X0.ldcI hx hown (mvT hZ (hw _ (List.mem_of_getElem? (i := 6) rfl))) rfl (hb hby d2_57)) ?_
            show Goes p e below _ (s₁.setTop (mkF m 59 #[.val (.int p0)] [(.int (65534 : Int32)), (.int p0)]))
            by_cases hc59 : p0 = (65534 : Int32)
            · refine Goes.go (fun t => XS.icmpYes X0.here hx rfl (pc0 := 59) (pc' := 68) rfl (hb hby d2_59) rfl (Jvm.Free.XT.ii_eq_t hc59) (by decide) (by decide)) ?_
              show Goes p e below _ (s₁.setTop (mkF m 68 #[.val (.int p0)] []))
              refine Goes.go (fun t => XS.iconst X0.here hx rfl (hb hby d2_68)) ?_
              show Goes p e below _ (s₁.setTop (mkF m 69 #[.val (.int p0)] [(.int (0 : Int32))]))
              exact Goes.out X0 (fun h => by rw [Bd.returns] at h; cases h) Bd.notSynchronized (fun fs hr => retN X0 hx (t := .boolean) Bd.returns (by simp) (hb hby d2_69) hr) ⟨own_x0 (by unfold own_px; simp only [Int32.lt_iff_toInt_lt, ← Int32.toInt_inj, Int32.reduceToInt] at hc1 hc7 hc15 hc45 hc51 hc59; omega), N0, e0⟩ (by decide) (by decide)
            · refine Goes.go (fun t => XS.icmpNo X0.here hx rfl (hb hby d2_59) rfl (Jvm.Free.XT.ii_eq_f hc59)) ?_
              show Goes p e below _ (s₁.setTop (mkF m 62 #[.val (.int p0)] []))
              refine Goes.go (fun t => XS.iloadN X0.here hx rfl (hb hby d2_62) rfl ) ?_
              show Goes p e below _ (s₁.setTop (mkF m 63 #[.val (.int p0)] [(.int p0)]))
              refine Goes.go (fun t => X0.ldcI hx hown (mvT hZ (hw _ (List.mem_of_getElem? (i := 7) rfl))) rfl (hb hby d2_63)) ?_
              show Goes p e below _ (s₁.setTop (mkF m 65 #[.val (.int p0)] [(.int (65535 : Int32)), (.int p0)]))
              by_cases hc65 : p0 = (65535 : Int32)
              · refine Goes.go (fun t => XS.icmpNo X0.here hx rfl (hb hby d2_65) rfl (Jvm.Free.XT.ii_ne_f hc65)) ?_
                show Goes p e below _ (s₁.setTop (mkF m 68 #[.val (.int p0)] []))
                refine Goes.go (fun t => XS.iconst X0.here hx rfl (hb hby d2_68)) ?_
                show Goes p e below _ (s₁.setTop (mkF m 69 #[.val (.int p0)] [(.int (0 : Int32))]))
                exact Goes.out X0 (fun h => by rw [Bd.returns] at h; cases h) Bd.notSynchronized (fun fs hr => retN X0 hx (t := .boolean) Bd.returns (by simp) (hb hby d2_69) hr) ⟨own_x0 (by unfold own_px; simp only [Int32.lt_iff_toInt_lt, ← Int32.toInt_inj, Int32.reduceToInt] at hc1 hc7 hc15 hc45 hc51 hc59 hc65; omega), N0, e0⟩ (by decide) (by decide)
              · refine Goes.go (fun t => XS.icmpYes X0.here hx rfl (pc0 := 65) (pc' := 70) rfl (hb hby d2_65) rfl (Jvm.Free.XT.ii_ne_t hc65) (by decide) (by decide)) ?_
                show Goes p e below _ (s₁.setTop (mkF m 70 #[.val (.int p0)] []))
                refine Goes.go (fun t => XS.iconst X0.here hx rfl (hb hby d2_70)) ?_
                show Goes p e below _ (s₁.setTop (mkF m 71 #[.val (.int p0)] [(.int (1 : Int32))]))
                exact Goes.out X0 (fun h => by rw [Bd.returns] at h; cases h) Bd.notSynchronized (fun fs hr => retN X0 hx (t := .boolean) Bd.returns (by simp) (hb hby d2_71) hr) ⟨own_x1 (by unfold own_px; simp only [Int32.lt_iff_toInt_lt, ← Int32.toInt_inj, Int32.reduceToInt] at hc1 hc7 hc15 hc45 hc51 hc59 hc65; omega), N0, e0⟩ (by decide) (by decide)
          · refine Goes.go (fun t => XS.icmpNo X0.here hx rfl (hb hby d2_51) rfl (Jvm.Free.XT.ii_gt_f hc51)) ?_
            show Goes p e below _ (s₁.setTop (mkF m 54 #[.val (.int p0)] []))
            refine Goes.go (fun t => XS.iconst X0.here hx rfl (hb hby d2_54)) ?_
            show Goes p e below _ (s₁.setTop (mkF m 55 #[.val (.int p0)] [(.int (0 : Int32))]))
            exact Goes.out X0 (fun h => by rw [Bd.returns] at h; cases h) Bd.notSynchronized (fun fs hr => retN X0 hx (t := .boolean) Bd.returns (by simp) (hb hby d2_55) hr) ⟨own_x0 (by unfold own_px; simp only [Int32.lt_iff_toInt_lt, ← Int32.toInt_inj, Int32.reduceToInt] at hc1 hc7 hc15 hc45 hc51; omega), N0, e0⟩ (by decide) (by decide)
theorem pn_0 : plainName "com/example/thames/thames/model/XmlCharactersIsXmlCharacterPinLaw" = true := by first | (simp [plainName, overriddenIn]; done) | decide +kernel
theorem pd0_0 : parseMethodDescriptor "(I)Z" = some ⟨[.int], some .boolean⟩ := by decide +kernel
theorem ef_0 (m : MethodId) (p0 : Int32) (p1 : Int32) (p2 : Int32) : entryFrame m #[(.int p0), (.int p1), (.int p2)] maxLocals = mkF m 0 #[.val (.int p0), .val (.int p1), .val (.int p2), .unset, .unset, .unset, .unset, .unset] [] := by first | (simp [entryFrame, mkF, argsToLocals, Value.category, maxLocals]; done) | rfl
def Q0 (Z : State) (p0 : Int32) (p1 : Int32) (p2 : Int32) (h0 : Heap) (n0 : Nat) (v : Option Value) (h : Heap) (L : List Loc) : Prop := v = some (.int 1) ∧ Fr n0 L
set_option maxRecDepth 65536 in
set_option maxHeartbeats 40000000 in
theorem rm0 (l : Launch) (Z : State) (a0 : Array Value) (hw : ∀ d ∈ tables_1, d.before a0 Z = true) (ws : List Jvm.Cond) (p0 : Int32) (p1 : Int32) (p2 : Int32) (h0 : Heap) (n0 : Nat) (Z0 : n0 ≤ h0.size) :
    MetFree l x (head1 (Jvm.Cond.code x code maxLocals ret :: ws) room_1) (fun a U => a = #[(.int p0), (.int p1), (.int p2)] ∧ Z.Warmed39 U.vm ∧ U.heap = h0) (fun _ _ _ _ _ => True) (fun _ U o U' => ∃ v L, o = .returned v ∧ Q0 Z p0 p1 p2 h0 n0 v U'.heap L ∧ FrameEnd U o U' L room_1.cells room_1.slots) := by
  refine MetFree.of_bodySF (plainFor_of_name pn_0) hisR ?_
  intro p e s m args below meth c s₁ Bd hml0 hP hK
  obtain ⟨rfl, hZ, hh⟩ := hP
  have hx := Bd.exec
  have hby := Bd.bytes
  have hml : c.maxLocals = 8 := hml0
  have hown : s.vm.findClass "com/example/thames/thames/model/XmlCharactersIsXmlCharacterPinLaw" = some m.cls := findClass_of_methodNamed Bd.named
  have hnm := (name_of_methodNamed Bd.named Bd.method).1
  have X0 : Stand p l e room_1 s m #[(.int p0), (.int p1), (.int p2)] below meth c s₁ [] 0 0 := Stand.of_body Bd
  have e0 : s₁.heap = h0 := by rw [← hh, Bd.state]; rfl
  have N0 := Fr.nil n0
  show Goes p e below (fun o U' => ∃ v L, o = .returned v ∧ Q0 Z p0 p1 p2 h0 n0 v U'.heap L ∧ FrameEnd s o U' L room_1.cells room_1.slots) _
  refine Goes.go (fun t k => castTop (ef_0 m p0 p1 p2) k) ?_
  show Goes p e below _ (s₁.setTop (mkF m 0 #[.val (.int p0), .val (.int p1), .val (.int p2), .unset, .unset, .unset, .unset, .unset] []))
  refine Goes.go (fun t => XS.bipush X0.here hx rfl (hb hby at_0)) ?_
  show Goes p e below _ (s₁.setTop (mkF m 2 #[.val (.int p0), .val (.int p1), .val (.int p2), .unset, .unset, .unset, .unset, .unset] [(.int (24 : Int32))]))
  obtain ⟨T1, h1, k1, X1, e1, E1, A1, st1⟩ := newP X0 hx hZ (hw _ (List.mem_of_getElem? (i := 0) rfl)) e0 (g := (mkF m 2 #[.val (.int p0), .val (.int p1), .val (.int p2), .unset, .unset, .unset, .unset, .unset] [(.int (24 : Int32))])) rfl (hb hby at_2) rfl (by decide) (cap := 24) (by decide) (by decide) (by decide) (by decide)
  obtain ⟨b, gb⟩ : ∃ z, z = h0.size := ⟨_, rfl⟩
  rw [← gb] at A1 st1
  have V1 : own_ai Z h1 b 24 := own_ai.made A1 (by decide)
  have g_b : n0 ≤ b := Nat.le_trans Z0 (Nat.le_of_eq gb.symm)
  have Z1 : n0 ≤ h1.size := Nat.le_trans Z0 E1.1
  refine Goes.go st1 ?_
  show Goes p e below _ (T1.setTop (mkF m 4 #[.val (.int p0), .val (.int p1), .val (.int p2), .unset, .unset, .unset, .unset, .unset] [(.ref b)]))
  refine Goes.go (fun t => XS.dup X1.here hx rfl (hb hby at_4) rfl rfl) ?_
  show Goes p e below _ (T1.setTop (mkF m 5 #[.val (.int p0), .val (.int p1), .val (.int p2), .unset, .unset, .unset, .unset, .unset] [(.ref b), (.ref b)]))
  refine Goes.go (fun t => XS.iconst X1.here hx rfl (hb hby at_5)) ?_
  show Goes p e below _ (T1.setTop (mkF m 6 #[.val (.int p0), .val (.int p1), .val (.int p2), .unset, .unset, .unset, .unset, .unset] [(.int (0 : Int32)), (.ref b), (.ref b)]))
  refine Goes.go (fun t => XS.iconst X1.here hx rfl (hb hby at_6)) ?_
  show Goes p e below _ (T1.setTop (mkF m 7 #[.val (.int p0), .val (.int p1), .val (.int p2), .unset, .unset, .unset, .unset, .unset] [(.int (0 : Int32)), (.int (0 : Int32)), (.ref b), (.ref b)]))
  obtain ⟨c2, Ar2, S2, H2⟩ := id V1
  obtain ⟨T2, h2, X2, e2, W2, st2⟩ := stI X1 hx hZ e1 Ar2 (j := (0 : Int32)) (by rw [S2]; decide) (g := (mkF m 7 #[.val (.int p0), .val (.int p1), .val (.int p2), .unset, .unset, .unset, .unset, .unset] [(.int (0 : Int32)), (.int (0 : Int32)), (.ref b), (.ref b)])) rfl rfl (hb hby at_7)
  have V2 : own_ai Z h2 b 24 := own_ai.wr V1 W2
  have Z2 : n0 ≤ h2.size := Nat.le_trans Z1 (Nat.le_of_eq W2.size.symm)
  have N2 := Fr.snoc X2 N0 g_b
  refine Goes.go st2 ?_
  obtain ⟨LL3, XL3, NL3⟩ : ∃ LL : List Loc, Stand p l e room_1 s m #[(.int p0), (.int p1), (.int p2)] below meth c T2 LL 1 24 ∧ Fr n0 LL := ⟨_, X2, N2⟩
  show Goes p e below _ (T2.setTop (mkF m 8 #[.val (.int p0), .val (.int p1), .val (.int p2), .unset, .unset, .unset, .unset, .unset] [(.ref b)]))
  refine Goes.go (fun t => XS.dup XL3.here hx rfl (hb hby at_8) rfl rfl) ?_
  show Goes p e below _ (T2.setTop (mkF m 9 #[.val (.int p0), .val (.int p1), .val (.int p2), .unset, .unset, .unset, .unset, .unset] [(.ref b), (.ref b)]))
  refine Goes.go (fun t => XS.iconst XL3.here hx rfl (hb hby at_9)) ?_
  show Goes p e below _ (T2.setTop (mkF m 10 #[.val (.int p0), .val (.int p1), .val (.int p2), .unset, .unset, .unset, .unset, .unset] [(.int (1 : Int32)), (.ref b), (.ref b)]))
  refine Goes.go (fun t => XS.bipush XL3.here hx rfl (hb hby at_10)) ?_
  show Goes p e below _ (T2.setTop (mkF m 12 #[.val (.int p0), .val (.int p1), .val (.int p2), .unset, .unset, .unset, .unset, .unset] [(.int (8 : Int32)), (.int (1 : Int32)), (.ref b), (.ref b)]))
  obtain ⟨c4, Ar4, S4, H4⟩ := id V2
  obtain ⟨T4, h4, X4, e4, W4, st4⟩ := stI XL3 hx hZ e2 Ar4 (j := (1 : Int32)) (by rw [S4]; decide) (g := (mkF m 12 #[.val (.int p0), .val (.int p1), .val (.int p2), .unset, .unset, .unset, .unset, .unset] [(.int (8 : Int32)), (.int (1 : Int32)), (.ref b), (.ref b)])) rfl rfl (hb hby at_12)
  have V4 : own_ai Z h4 b 24 := own_ai.wr V2 W4
  have Z4 : n0 ≤ h4.size := Nat.le_trans Z2 (Nat.le_of_eq W4.size.symm)
  have N4 := Fr.snoc X4 NL3 g_b
  refine Goes.go st4 ?_
  obtain ⟨LL5, XL5, NL5⟩ : ∃ LL : List Loc, Stand p l e room_1 s m #[(.int p0), (.int p1), (.int p2)] below meth c T4 LL 1 24 ∧ Fr n0 LL := ⟨_, X4, N4⟩
  show Goes p e below _ (T4.setTop (mkF m 13 #[.val (.int p0), .val (.int p1), .val (.int p2), .unset, .unset, .unset, .unset, .unset] [(.ref b)]))
  refine Goes.go (fun t => XS.dup XL5.here hx rfl (hb hby at_13) rfl rfl) ?_
  show Goes p e below _ (T4.setTop (mkF m 14 #[.val (.int p0), .val (.int p1), .val (.int p2), .unset, .unset, .unset, .unset, .unset] [(.ref b), (.ref b)]))
  refine Goes.go (fun t => XS.iconst XL5.here hx rfl (hb hby at_14)) ?_
  show Goes p e below _ (T4.setTop (mkF m 15 #[.val (.int p0), .val (.int p1), .val (.int p2), .unset, .unset, .unset, .unset, .unset] [(.int (2 : Int32)), (.ref b), (.ref b)]))
  refine Goes.go (fun t => XS.bipush XL5.here hx rfl (hb hby at_15)) ?_
  show Goes p e below _ (T4.setTop (mkF m 17 #[.val (.int p0), .val (.int p1), .val (.int p2), .unset, .unset, .unset, .unset, .unset] [(.int (9 : Int32)), (.int (2 : Int32)), (.ref b), (.ref b)]))
  obtain ⟨c6, Ar6, S6, H6⟩ := id V4
  obtain ⟨T6, h6, X6, e6, W6, st6⟩ := stI XL5 hx hZ e4 Ar6 (j := (2 : Int32)) (by rw [S6]; decide) (g := (mkF m 17 #[.val (.int p0), .val (.int p1), .val (.int p2), .unset, .unset, .unset, .unset, .unset] [(.int (9 : Int32)), (.int (2 : Int32)), (.ref b), (.ref b)])) rfl rfl (hb hby at_17)
  have V6 : own_ai Z h6 b 24 := own_ai.wr V4 W6
  have Z6 : n0 ≤ h6.size := Nat.le_trans Z4 (Nat.le_of_eq W6.size.symm)
  have N6 := Fr.snoc X6 NL5 g_b
  refine Goes.go st6 ?_
  obtain ⟨LL7, XL7, NL7⟩ : ∃ LL : List Loc, Stand p l e room_1 s m #[(.int p0), (.int p1), (.int p2)] below meth c T6 LL 1 24 ∧ Fr n0 LL := ⟨_, X6, N6⟩
  show Goes p e below _ (T6.setTop (mkF m 18 #[.val (.int p0), .val (.int p1), .val (.int p2), .unset, .unset, .unset, .unset, .unset] [(.ref b)]))
  refine Goes.go (fun t => XS.dup XL7.here hx rfl (hb hby at_18) rfl rfl) ?_
  show Goes p e below _ (T6.setTop (mkF m 19 #[.val (.int p0), .val (.int p1), .val (.int p2), .unset, .unset, .unset, .unset, .unset] [(.ref b), (.ref b)]))
  refine Goes.go (fun t => XS.iconst XL7.here hx rfl (hb hby at_19)) ?_
  show Goes p e below _ (T6.setTop (mkF m 20 #[.val (.int p0), .val (.int p1), .val (.int p2), .unset, .unset, .unset, .unset, .unset] [(.int (3 : Int32)), (.ref b), (.ref b)]))
  refine Goes.go (fun t => XS.bipush XL7.here hx rfl (hb hby at_20)) ?_
  show Goes p e below _ (T6.setTop (mkF m 22 #[.val (.int p0), .val (.int p1), .val (.int p2), .unset, .unset, .unset, .unset, .unset] [(.int (10 : Int32)), (.int (3 : Int32)), (.ref b), (.ref b)]))
  obtain ⟨c8, Ar8, S8, H8⟩ := id V6
  obtain ⟨T8, h8, X8, e8, W8, st8⟩ := stI XL7 hx hZ e6 Ar8 (j := (3 : Int32)) (by rw [S8]; decide) (g := (mkF m 22 #[.val (.int p0), .val (.int p1), .val (.int p2), .unset, .unset, .unset, .unset, .unset] [(.int (10 : Int32)), (.int (3 : Int32)), (.ref b), (.ref b)])) rfl rfl (hb hby at_22)
  have V8 : own_ai Z h8 b 24 := own_ai.wr V6 W8
  have Z8 : n0 ≤ h8.size := Nat.le_trans Z6 (Nat.le_of_eq W8.size.symm)
  have N8 := Fr.snoc X8 NL7 g_b
  refine Goes.go st8 ?_
  obtain ⟨LL9, XL9, NL9⟩ : ∃ LL : List Loc, Stand p l e room_1 s m #[(.int p0), (.int p1), (.int p2)] below meth c T8 LL 1 24 ∧ Fr n0 LL := ⟨_, X8, N8⟩
  show Goes p e below _ (T8.setTop (mkF m 23 #[.val (.int p0), .val (.int p1), .val (.int p2), .unset, .unset, .unset, .unset, .unset] [(.ref b)]))
  refine Goes.go (fun t => XS.dup XL9.here hx rfl (hb hby at_23) rfl rfl) ?_
  show Goes p e below _ (T8.setTop (mkF m 24 #[.val (.int p0), .val (.int p1), .val (.int p2), .unset, .unset, .unset, .unset, .unset] [(.ref b), (.ref b)]))
  refine Goes.go (fun t => XS.iconst XL9.here hx rfl (hb hby at_24)) ?_
  show Goes p e below _ (T8.setTop (mkF m 25 #[.val (.int p0), .val (.int p1), .val (.int p2), .unset, .unset, .unset, .unset, .unset] [(.int (4 : Int32)), (.ref b), (.ref b)]))
  refine Goes.go (fun t => XS.bipush XL9.here hx rfl (hb hby at_25)) ?_
  show Goes p e below _ (T8.setTop (mkF m 27 #[.val (.int p0), .val (.int p1), .val (.int p2), .unset, .unset, .unset, .unset, .unset] [(.int (11 : Int32)), (.int (4 : Int32)), (.ref b), (.ref b)]))
  obtain ⟨c10, Ar10, S10, H10⟩ := id V8
  obtain ⟨T10, h10, X10, e10, W10, st10⟩ := stI XL9 hx hZ e8 Ar10 (j := (4 : Int32)) (by rw [S10]; decide) (g := (mkF m 27 #[.val (.int p0), .val (.int p1), .val (.int p2), .unset, .unset, .unset, .unset, .unset] [(.int (11 : Int32)), (.int (4 : Int32)), (.ref b), (.ref b)])) rfl rfl (hb hby at_27)
  have V10 : own_ai Z h10 b 24 := own_ai.wr V8 W10
  have Z10 : n0 ≤ h10.size := Nat.le_trans Z8 (Nat.le_of_eq W10.size.symm)
  have N10 := Fr.snoc X10 NL9 g_b
  refine Goes.go st10 ?_
  obtain ⟨LL11, XL11, NL11⟩ : ∃ LL : List Loc, Stand p l e room_1 s m #[(.int p0), (.int p1), (.int p2)] below meth c T10 LL 1 24 ∧ Fr n0 LL := ⟨_, X10, N10⟩
  show Goes p e below _ (T10.setTop (mkF m 28 #[.val (.int p0), .val (.int p1), .val (.int p2), .unset, .unset, .unset, .unset, .unset] [(.ref b)]))
  refine Goes.go (fun t => XS.dup XL11.here hx rfl (hb hby at_28) rfl rfl) ?_
  show Goes p e below _ (T10.setTop (mkF m 29 #[.val (.int p0), .val (.int p1), .val (.int p2), .unset, .unset, .unset, .unset, .unset] [(.ref b), (.ref b)]))
  refine Goes.go (fun t => XS.iconst XL11.here hx rfl (hb hby at_29)) ?_
  show Goes p e below _ (T10.setTop (mkF m 30 #[.val (.int p0), .val (.int p1), .val (.int p2), .unset, .unset, .unset, .unset, .unset] [(.int (5 : Int32)), (.ref b), (.ref b)]))
  refine Goes.go (fun t => XS.bipush XL11.here hx rfl (hb hby at_30)) ?_
  show Goes p e below _ (T10.setTop (mkF m 32 #[.val (.int p0), .val (.int p1), .val (.int p2), .unset, .unset, .unset, .unset, .unset] [(.int (12 : Int32)), (.int (5 : Int32)), (.ref b), (.ref b)]))
  obtain ⟨c12, Ar12, S12, H12⟩ := id V10
  obtain ⟨T12, h12, X12, e12, W12, st12⟩ := stI XL11 hx hZ e10 Ar12 (j := (5 : Int32)) (by rw [S12]; decide) (g := (mkF m 32 #[.val (.int p0), .val (.int p1), .val (.int p2), .unset, .unset, .unset, .unset, .unset] [(.int (12 : Int32)), (.int (5 : Int32)), (.ref b), (.ref b)])) rfl rfl (hb hby at_32)
  have V12 : own_ai Z h12 b 24 := own_ai.wr V10 W12
  have Z12 : n0 ≤ h12.size := Nat.le_trans Z10 (Nat.le_of_eq W12.size.symm)
  have N12 := Fr.snoc X12 NL11 g_b
  refine Goes.go st12 ?_
  obtain ⟨LL13, XL13, NL13⟩ : ∃ LL : List Loc, Stand p l e room_1 s m #[(.int p0), (.int p1), (.int p2)] below meth c T12 LL 1 24 ∧ Fr n0 LL := ⟨_, X12, N12⟩
  show Goes p e below _ (T12.setTop (mkF m 33 #[.val (.int p0), .val (.int p1), .val (.int p2), .unset, .unset, .unset, .unset, .unset] [(.ref b)]))
  refine Goes.go (fun t => XS.dup XL13.here hx rfl (hb hby at_33) rfl rfl) ?_
  show Goes p e below _ (T12.setTop (mkF m 34 #[.val (.int p0), .val (.int p1), .val (.int p2), .unset, .unset, .unset, .unset, .unset] [(.ref b), (.ref b)]))
  refine Goes.go (fun t => XS.bipush XL13.here hx rfl (hb hby at_34)) ?_
  show Goes p e below _ (T12.setTop (mkF m 36 #[.val (.int p0), .val (.int p1), .val (.int p2), .unset, .unset, .unset, .unset, .unset] [(.int (6 : Int32)), (.ref b), (.ref b)]))
  refine Goes.go (fun t => XS.bipush XL13.here hx rfl (hb hby at_36)) ?_
  show Goes p e below _ (T12.setTop (mkF m 38 #[.val (.int p0), .val (.int p1), .val (.int p2), .unset, .unset, .unset, .unset, .unset] [(.int (13 : Int32)), (.int (6 : Int32)), (.ref b), (.ref b)]))
  obtain ⟨c14, Ar14, S14, H14⟩ := id V12
  obtain ⟨T14, h14, X14, e14, W14, st14⟩ := stI XL13 hx hZ e12 Ar14 (j := (6 : Int32)) (by rw [S14]; decide) (g := (mkF m 38 #[.val (.int p0), .val (.int p1), .val (.int p2), .unset, .unset, .unset, .unset, .unset] [(.int (13 : Int32)), (.int (6 : Int32)), (.ref b), (.ref b)])) rfl rfl (hb hby at_38)
  have V14 : own_ai Z h14 b 24 := own_ai.wr V12 W14
  have Z14 : n0 ≤ h14.size := Nat.le_trans Z12 (Nat.le_of_eq W14.size.symm)
  have N14 := Fr.snoc X14 NL13 g_b
  refine Goes.go st14 ?_
  obtain ⟨LL15, XL15, NL15⟩ : ∃ LL : List Loc, Stand p l e room_1 s m #[(.int p0), (.int p1), (.int p2)] below meth c T14 LL 1 24 ∧ Fr n0 LL := ⟨_, X14, N14⟩
  show Goes p e below _ (T14.setTop (mkF m 39 #[.val (.int p0), .val (.int p1), .val (.int p2), .unset, .unset, .unset, .unset, .unset] [(.ref b)]))
  refine Goes.go (fun t => XS.dup XL15.here hx rfl (hb hby at_39) rfl rfl) ?_
  show Goes p e below _ (T14.setTop (mkF m 40 #[.val (.int p0), .val (.int p1), .val (.int p2), .unset, .unset, .unset, .unset, .unset] [(.ref b), (.ref b)]))
  refine Goes.go (fun t => XS.bipush XL15.here hx rfl (hb hby at_40)) ?_
  show Goes p e below _ (T14.setTop (mkF m 42 #[.val (.int p0), .val (.int p1), .val (.int p2), .unset, .unset, .unset, .unset, .unset] [(.int (7 : Int32)), (.ref b), (.ref b)]))
  refine Goes.go (fun t => XS.bipush XL15.here hx rfl (hb hby at_42)) ?_
  show Goes p e below _ (T14.setTop (mkF m 44 #[.val (.int p0), .val (.int p1), .val (.int p2), .unset, .unset, .unset, .unset, .unset] [(.int (14 : Int32)), (.int (7 : Int32)), (.ref b), (.ref b)]))
  obtain ⟨c16, Ar16, S16, H16⟩ := id V14
  obtain ⟨T16, h16, X16, e16, W16, st16⟩ := stI XL15 hx hZ e14 Ar16 (j := (7 : Int32)) (by rw [S16]; decide) (g := (mkF m 44 #[.val (.int p0), .val (.int p1), .val (.int p2), .unset, .unset, .unset, .unset, .unset] [(.int (14 : Int32)), (.int (7 : Int32)), (.ref b), (.ref b)])) rfl rfl (hb hby at_44)
  have V16 : own_ai Z h16 b 24 := own_ai.wr V14 W16
  have Z16 : n0 ≤ h16.size := Nat.le_trans Z14 (Nat.le_of_eq W16.size.symm)
  have N16 := Fr.snoc X16 NL15 g_b
  refine Goes.go st16 ?_
  obtain ⟨LL17, XL17, NL17⟩ : ∃ LL : List Loc, Stand p l e room_1 s m #[(.int p0), (.int p1), (.int p2)] below meth c T16 LL 1 24 ∧ Fr n0 LL := ⟨_, X16, N16⟩
  show Goes p e below _ (T16.setTop (mkF m 45 #[.val (.int p0), .val (.int p1), .val (.int p2), .unset, .unset, .unset, .unset, .unset] [(.ref b)]))
  refine Goes.go (fun t => XS.dup XL17.here hx rfl (hb hby at_45) rfl rfl) ?_
  show Goes p e below _ (T16.setTop (mkF m 46 #[.val (.int p0), .val (.int p1), .val (.int p2), .unset, .unset, .unset, .unset, .unset] [(.ref b), (.ref b)]))
  refine Goes.go (fun t => XS.bipush XL17.here hx rfl (hb hby at_46)) ?_
  show Goes p e below _ (T16.setTop (mkF m 48 #[.val (.int p0), .val (.int p1), .val (.int p2), .unset, .unset, .unset, .unset, .unset] [(.int (8 : Int32)), (.ref b), (.ref b)]))
  refine Goes.go (fun t => XS.bipush XL17.here hx rfl (hb hby at_48)) ?_
  show Goes p e below _ (T16.setTop (mkF m 50 #[.val (.int p0), .val (.int p1), .val (.int p2), .unset, .unset, .unset, .unset, .unset] [(.int (31 : Int32)), (.int (8 : Int32)), (.ref b), (.ref b)]))
  obtain ⟨c18, Ar18, S18, H18⟩ := id V16
  obtain ⟨T18, h18, X18, e18, W18, st18⟩ := stI XL17 hx hZ e16 Ar18 (j := (8 : Int32)) (by rw [S18]; decide) (g := (mkF m 50 #[.val (.int p0), .val (.int p1), .val (.int p2), .unset, .unset, .unset, .unset, .unset] [(.int (31 : Int32)), (.int (8 : Int32)), (.ref b), (.ref b)])) rfl rfl (hb hby at_50)
  have V18 : own_ai Z h18 b 24 := own_ai.wr V16 W18
  have Z18 : n0 ≤ h18.size := Nat.le_trans Z16 (Nat.le_of_eq W18.size.symm)
  have N18 := Fr.snoc X18 NL17 g_b
  refine Goes.go st18 ?_
  obtain ⟨LL19, XL19, NL19⟩ : ∃ LL : List Loc, Stand p l e room_1 s m #[(.int p0), (.int p1), (.int p2)] below meth c T18 LL 1 24 ∧ Fr n0 LL := ⟨_, X18, N18⟩
  show Goes p e below _ (T18.setTop (mkF m 51 #[.val (.int p0), .val (.int p1), .val (.int p2), .unset, .unset, .unset, .unset, .unset] [(.ref b)]))
  refine Goes.go (fun t => XS.dup XL19.here hx rfl (hb hby at_51) rfl rfl) ?_
  show Goes p e below _ (T18.setTop (mkF m 52 #[.val (.int p0), .val (.int p1), .val (.int p2), .unset, .unset, .unset, .unset, .unset] [(.ref b), (.ref b)]))
  refine Goes.go (fun t => XS.bipush XL19.here hx rfl (hb hby at_52)) ?_
  show Goes p e below _ (T18.setTop (mkF m 54 #[.val (.int p0), .val (.int p1), .val (.int p2), .unset, .unset, .unset, .unset, .unset] [(.int (9 : Int32)), (.ref b), (.ref b)]))
  refine Goes.go (fun t => XS.bipush XL19.here hx rfl (hb hby at_54)) ?_
  show Goes p e below _ (T18.setTop (mkF m 56 #[.val (.int p0), .val (.int p1), .val (.int p2), .unset, .unset, .unset, .unset, .unset] [(.int (32 : Int32)), (.int (9 : Int32)), (.ref b), (.ref b)]))
  obtain ⟨c20, Ar20, S20, H20⟩ := id V18
  obtain ⟨T20, h20, X20, e20, W20, st20⟩ := stI XL19 hx hZ e18 Ar20 (j := (9 : Int32)) (by rw [S20]; decide) (g := (mkF m 56 #[.val (.int p0), .val (.int p1), .val (.int p2), .unset, .unset, .unset, .unset, .unset] [(.int (32 : Int32)), (.int (9 : Int32)), (.ref b), (.ref b)])) rfl rfl (hb hby at_56)
  have V20 : own_ai Z h20 b 24 := own_ai.wr V18 W20
  have Z20 : n0 ≤ h20.size := Nat.le_trans Z18 (Nat.le_of_eq W20.size.symm)
  have N20 := Fr.snoc X20 NL19 g_b
  refine Goes.go st20 ?_
  obtain ⟨LL21, XL21, NL21⟩ : ∃ LL : List Loc, Stand p l e room_1 s m #[(.int p0), (.int p1), (.int p2)] below meth c T20 LL 1 24 ∧ Fr n0 LL := ⟨_, X20, N20⟩
  show Goes p e below _ (T20.setTop (mkF m 57 #[.val (.int p0), .val (.int p1), .val (.int p2), .unset, .unset, .unset, .unset, .unset] [(.ref b)]))
  refine Goes.go (fun t => XS.dup XL21.here hx rfl (hb hby at_57) rfl rfl) ?_
  show Goes p e below _ (T20.setTop (mkF m 58 #[.val (.int p0), .val (.int p1), .val (.int p2), .unset, .unset, .unset, .unset, .unset] [(.ref b), (.ref b)]))
  refine Goes.go (fun t => XS.bipush XL21.here hx rfl (hb hby at_58)) ?_
  show Goes p e below _ (T20.setTop (mkF m 60 #[.val (.int p0), .val (.int p1), .val (.int p2), .unset, .unset, .unset, .unset, .unset] [(.int (10 : Int32)), (.ref b), (.ref b)]))
  refine Goes.go (fun t => XS.bipush XL21.here hx rfl (hb hby at_60)) ?_
  show Goes p e below _ (T20.setTop (mkF m 62 #[.val (.int p0), .val (.int p1), .val (.int p2), .unset, .unset, .unset, .unset, .unset] [(.int (127 : Int32)), (.int (10 : Int32)), (.ref b), (.ref b)]))
  obtain ⟨c22, Ar22, S22, H22⟩ := id V20
  obtain ⟨T22, h22, X22, e22, W22, st22⟩ := stI XL21 hx hZ e20 Ar22 (j := (10 : Int32)) (by rw [S22]; decide) (g := (mkF m 62 #[.val (.int p0), .val (.int p1), .val (.int p2), .unset, .unset, .unset, .unset, .unset] [(.int (127 : Int32)), (.int (10 : Int32)), (.ref b), (.ref b)])) rfl rfl (hb hby at_62)
  have V22 : own_ai Z h22 b 24 := own_ai.wr V20 W22
  have Z22 : n0 ≤ h22.size := Nat.le_trans Z20 (Nat.le_of_eq W22.size.symm)
  have N22 := Fr.snoc X22 NL21 g_b
  refine Goes.go st22 ?_
  obtain ⟨LL23, XL23, NL23⟩ : ∃ LL : List Loc, Stand p l e room_1 s m #[(.int p0), (.int p1), (.int p2)] below meth c T22 LL 1 24 ∧ Fr n0 LL := ⟨_, X22, N22⟩
  show Goes p e below _ (T22.setTop (mkF m 63 #[.val (.int p0), .val (.int p1), .val (.int p2), .unset, .unset, .unset, .unset, .unset] [(.ref b)]))
  refine Goes.go (fun t => XS.dup XL23.here hx rfl (hb hby at_63) rfl rfl) ?_
  show Goes p e below _ (T22.setTop (mkF m 64 #[.val (.int p0), .val (.int p1), .val (.int p2), .unset, .unset, .unset, .unset, .unset] [(.ref b), (.ref b)]))
  refine Goes.go (fun t => XS.bipush XL23.here hx rfl (hb hby at_64)) ?_
  show Goes p e below _ (T22.setTop (mkF m 66 #[.val (.int p0), .val (.int p1), .val (.int p2), .unset, .unset, .unset, .unset, .unset] [(.int (11 : Int32)), (.ref b), (.ref b)]))
  refine Goes.go (fun t => XL23.ldcI hx hown (mvT hZ (hw _ (List.mem_of_getElem? (i := 1) rfl))) rfl (hb hby at_66)) ?_
  show Goes p e below _ (T22.setTop (mkF m 68 #[.val (.int p0), .val (.int p1), .val (.int p2), .unset, .unset, .unset, .unset, .unset] [(.int (55295 : Int32)), (.int (11 : Int32)), (.ref b), (.ref b)]))
  obtain ⟨c24, Ar24, S24, H24⟩ := id V22
  obtain ⟨T24, h24, X24, e24, W24, st24⟩ := stI XL23 hx hZ e22 Ar24 (j := (11 : Int32)) (by rw [S24]; decide) (g := (mkF m 68 #[.val (.int p0), .val (.int p1), .val (.int p2), .unset, .unset, .unset, .unset, .unset] [(.int (55295 : Int32)), (.int (11 : Int32)), (.ref b), (.ref b)])) rfl rfl (hb hby at_68)
  have V24 : own_ai Z h24 b 24 := own_ai.wr V22 W24
  have Z24 : n0 ≤ h24.size := Nat.le_trans Z22 (Nat.le_of_eq W24.size.symm)
  have N24 := Fr.snoc X24 NL23 g_b
  refine Goes.go st24 ?_
  obtain ⟨LL25, XL25, NL25⟩ : ∃ LL : List Loc, Stand p l e room_1 s m #[(.int p0), (.int p1), (.int p2)] below meth c T24 LL 1 24 ∧ Fr n0 LL := ⟨_, X24, N24⟩
  show Goes p e below _ (T24.setTop (mkF m 69 #[.val (.int p0), .val (.int p1), .val (.int p2), .unset, .unset, .unset, .unset, .unset] [(.ref b)]))
  refine Goes.go (fun t => XS.dup XL25.here hx rfl (hb hby at_69) rfl rfl) ?_
  show Goes p e below _ (T24.setTop (mkF m 70 #[.val (.int p0), .val (.int p1), .val (.int p2), .unset, .unset, .unset, .unset, .unset] [(.ref b), (.ref b)]))
  refine Goes.go (fun t => XS.bipush XL25.here hx rfl (hb hby at_70)) ?_
  show Goes p e below _ (T24.setTop (mkF m 72 #[.val (.int p0), .val (.int p1), .val (.int p2), .unset, .unset, .unset, .unset, .unset] [(.int (12 : Int32)), (.ref b), (.ref b)]))
  refine Goes.go (fun t => XL25.ldcI hx hown (mvT hZ (hw _ (List.mem_of_getElem? (i := 2) rfl))) rfl (hb hby at_72)) ?_
  show Goes p e below _ (T24.setTop (mkF m 74 #[.val (.int p0), .val (.int p1), .val (.int p2), .unset, .unset, .unset, .unset, .unset] [(.int (55296 : Int32)), (.int (12 : Int32)), (.ref b), (.ref b)]))
  obtain ⟨c26, Ar26, S26, H26⟩ := id V24
  obtain ⟨T26, h26, X26, e26, W26, st26⟩ := stI XL25 hx hZ e24 Ar26 (j := (12 : Int32)) (by rw [S26]; decide) (g := (mkF m 74 #[.val (.int p0), .val (.int p1), .val (.int p2), .unset, .unset, .unset, .unset, .unset] [(.int (55296 : Int32)), (.int (12 : Int32)), (.ref b), (.ref b)])) rfl rfl (hb hby at_74)
  have V26 : own_ai Z h26 b 24 := own_ai.wr V24 W26
  have Z26 : n0 ≤ h26.size := Nat.le_trans Z24 (Nat.le_of_eq W26.size.symm)
  have N26 := Fr.snoc X26 NL25 g_b
  refine Goes.go st26 ?_
  obtain ⟨LL27, XL27, NL27⟩ : ∃ LL : List Loc, Stand p l e room_1 s m #[(.int p0), (.int p1), (.int p2)] below meth c T26 LL 1 24 ∧ Fr n0 LL := ⟨_, X26, N26⟩
  show Goes p e below _ (T26.setTop (mkF m 75 #[.val (.int p0), .val (.int p1), .val (.int p2), .unset, .unset, .unset, .unset, .unset] [(.ref b)]))
  refine Goes.go (fun t => XS.dup XL27.here hx rfl (hb hby at_75) rfl rfl) ?_
  show Goes p e below _ (T26.setTop (mkF m 76 #[.val (.int p0), .val (.int p1), .val (.int p2), .unset, .unset, .unset, .unset, .unset] [(.ref b), (.ref b)]))
  refine Goes.go (fun t => XS.bipush XL27.here hx rfl (hb hby at_76)) ?_
  show Goes p e below _ (T26.setTop (mkF m 78 #[.val (.int p0), .val (.int p1), .val (.int p2), .unset, .unset, .unset, .unset, .unset] [(.int (13 : Int32)), (.ref b), (.ref b)]))
  refine Goes.go (fun t => XL27.ldcI hx hown (mvT hZ (hw _ (List.mem_of_getElem? (i := 3) rfl))) rfl (hb hby at_78)) ?_
  show Goes p e below _ (T26.setTop (mkF m 80 #[.val (.int p0), .val (.int p1), .val (.int p2), .unset, .unset, .unset, .unset, .unset] [(.int (57343 : Int32)), (.int (13 : Int32)), (.ref b), (.ref b)]))
  obtain ⟨c28, Ar28, S28, H28⟩ := id V26
  obtain ⟨T28, h28, X28, e28, W28, st28⟩ := stI XL27 hx hZ e26 Ar28 (j := (13 : Int32)) (by rw [S28]; decide) (g := (mkF m 80 #[.val (.int p0), .val (.int p1), .val (.int p2), .unset, .unset, .unset, .unset, .unset] [(.int (57343 : Int32)), (.int (13 : Int32)), (.ref b), (.ref b)])) rfl rfl (hb hby at_80)
  have V28 : own_ai Z h28 b 24 := own_ai.wr V26 W28
  have Z28 : n0 ≤ h28.size := Nat.le_trans Z26 (Nat.le_of_eq W28.size.symm)
  have N28 := Fr.snoc X28 NL27 g_b
  refine Goes.go st28 ?_
  obtain ⟨LL29, XL29, NL29⟩ : ∃ LL : List Loc, Stand p l e room_1 s m #[(.int p0), (.int p1), (.int p2)] below meth c T28 LL 1 24 ∧ Fr n0 LL := ⟨_, X28, N28⟩
  show Goes p e below _ (T28.setTop (mkF m 81 #[.val (.int p0), .val (.int p1), .val (.int p2), .unset, .unset, .unset, .unset, .unset] [(.ref b)]))
  refine Goes.go (fun t => XS.dup XL29.here hx rfl (hb hby at_81) rfl rfl) ?_
  show Goes p e below _ (T28.setTop (mkF m 82 #[.val (.int p0), .val (.int p1), .val (.int p2), .unset, .unset, .unset, .unset, .unset] [(.ref b), (.ref b)]))
  refine Goes.go (fun t => XS.bipush XL29.here hx rfl (hb hby at_82)) ?_
  show Goes p e below _ (T28.setTop (mkF m 84 #[.val (.int p0), .val (.int p1), .val (.int p2), .unset, .unset, .unset, .unset, .unset] [(.int (14 : Int32)), (.ref b), (.ref b)]))
  refine Goes.go (fun t => XL29.ldcI hx hown (mvT hZ (hw _ (List.mem_of_getElem? (i := 4) rfl))) rfl (hb hby at_84)) ?_
  show Goes p e below _ (T28.setTop (mkF m 86 #[.val (.int p0), .val (.int p1), .val (.int p2), .unset, .unset, .unset, .unset, .unset] [(.int (57344 : Int32)), (.int (14 : Int32)), (.ref b), (.ref b)]))
  obtain ⟨c30, Ar30, S30, H30⟩ := id V28
  obtain ⟨T30, h30, X30, e30, W30, st30⟩ := stI XL29 hx hZ e28 Ar30 (j := (14 : Int32)) (by rw [S30]; decide) (g := (mkF m 86 #[.val (.int p0), .val (.int p1), .val (.int p2), .unset, .unset, .unset, .unset, .unset] [(.int (57344 : Int32)), (.int (14 : Int32)), (.ref b), (.ref b)])) rfl rfl (hb hby at_86)
  have V30 : own_ai Z h30 b 24 := own_ai.wr V28 W30
  have Z30 : n0 ≤ h30.size := Nat.le_trans Z28 (Nat.le_of_eq W30.size.symm)
  have N30 := Fr.snoc X30 NL29 g_b
  refine Goes.go st30 ?_
  obtain ⟨LL31, XL31, NL31⟩ : ∃ LL : List Loc, Stand p l e room_1 s m #[(.int p0), (.int p1), (.int p2)] below meth c T30 LL 1 24 ∧ Fr n0 LL := ⟨_, X30, N30⟩
  show Goes p e below _ (T30.setTop (mkF m 87 #[.val (.int p0), .val (.int p1), .val (.int p2), .unset, .unset, .unset, .unset, .unset] [(.ref b)]))
  refine Goes.go (fun t => XS.dup XL31.here hx rfl (hb hby at_87) rfl rfl) ?_
  show Goes p e below _ (T30.setTop (mkF m 88 #[.val (.int p0), .val (.int p1), .val (.int p2), .unset, .unset, .unset, .unset, .unset] [(.ref b), (.ref b)]))
  refine Goes.go (fun t => XS.bipush XL31.here hx rfl (hb hby at_88)) ?_
  show Goes p e below _ (T30.setTop (mkF m 90 #[.val (.int p0), .val (.int p1), .val (.int p2), .unset, .unset, .unset, .unset, .unset] [(.int (15 : Int32)), (.ref b), (.ref b)]))
  refine Goes.go (fun t => XL31.ldcI hx hown (mvT hZ (hw _ (List.mem_of_getElem? (i := 5) rfl))) rfl (hb hby at_90)) ?_
  show Goes p e below _ (T30.setTop (mkF m 92 #[.val (.int p0), .val (.int p1), .val (.int p2), .unset, .unset, .unset, .unset, .unset] [(.int (65533 : Int32)), (.int (15 : Int32)), (.ref b), (.ref b)]))
  obtain ⟨c32, Ar32, S32, H32⟩ := id V30
  obtain ⟨T32, h32, X32, e32, W32, st32⟩ := stI XL31 hx hZ e30 Ar32 (j := (15 : Int32)) (by rw [S32]; decide) (g := (mkF m 92 #[.val (.int p0), .val (.int p1), .val (.int p2), .unset, .unset, .unset, .unset, .unset] [(.int (65533 : Int32)), (.int (15 : Int32)), (.ref b), (.ref b)])) rfl rfl (hb hby at_92)
  have V32 : own_ai Z h32 b 24 := own_ai.wr V30 W32
  have Z32 : n0 ≤ h32.size := Nat.le_trans Z30 (Nat.le_of_eq W32.size.symm)
  have N32 := Fr.snoc X32 NL31 g_b
  refine Goes.go st32 ?_
  obtain ⟨LL33, XL33, NL33⟩ : ∃ LL : List Loc, Stand p l e room_1 s m #[(.int p0), (.int p1), (.int p2)] below meth c T32 LL 1 24 ∧ Fr n0 LL := ⟨_, X32, N32⟩
  show Goes p e below _ (T32.setTop (mkF m 93 #[.val (.int p0), .val (.int p1), .val (.int p2), .unset, .unset, .unset, .unset, .unset] [(.ref b)]))
  refine Goes.go (fun t => XS.dup XL33.here hx rfl (hb hby at_93) rfl rfl) ?_
  show Goes p e below _ (T32.setTop (mkF m 94 #[.val (.int p0), .val (.int p1), .val (.int p2), .unset, .unset, .unset, .unset, .unset] [(.ref b), (.ref b)]))
  refine Goes.go (fun t => XS.bipush XL33.here hx rfl (hb hby at_94)) ?_
  show Goes p e below _ (T32.setTop (mkF m 96 #[.val (.int p0), .val (.int p1), .val (.int p2), .unset, .unset, .unset, .unset, .unset] [(.int (16 : Int32)), (.ref b), (.ref b)]))
  refine Goes.go (fun t => XL33.ldcI hx hown (mvT hZ (hw _ (List.mem_of_getElem? (i := 6) rfl))) rfl (hb hby at_96)) ?_
  show Goes p e below _ (T32.setTop (mkF m 98 #[.val (.int p0), .val (.int p1), .val (.int p2), .unset, .unset, .unset, .unset, .unset] [(.int (65534 : Int32)), (.int (16 : Int32)), (.ref b), (.ref b)]))
  obtain ⟨c34, Ar34, S34, H34⟩ := id V32
  obtain ⟨T34, h34, X34, e34, W34, st34⟩ := stI XL33 hx hZ e32 Ar34 (j := (16 : Int32)) (by rw [S34]; decide) (g := (mkF m 98 #[.val (.int p0), .val (.int p1), .val (.int p2), .unset, .unset, .unset, .unset, .unset] [(.int (65534 : Int32)), (.int (16 : Int32)), (.ref b), (.ref b)])) rfl rfl (hb hby at_98)
  have V34 : own_ai Z h34 b 24 := own_ai.wr V32 W34
  have Z34 : n0 ≤ h34.size := Nat.le_trans Z32 (Nat.le_of_eq W34.size.symm)
  have N34 := Fr.snoc X34 NL33 g_b
  refine Goes.go st34 ?_
  obtain ⟨LL35, XL35, NL35⟩ : ∃ LL : List Loc, Stand p l e room_1 s m #[(.int p0), (.int p1), (.int p2)] below meth c T34 LL 1 24 ∧ Fr n0 LL := ⟨_, X34, N34⟩
  show Goes p e below _ (T34.setTop (mkF m 99 #[.val (.int p0), .val (.int p1), .val (.int p2), .unset, .unset, .unset, .unset, .unset] [(.ref b)]))
  refine Goes.go (fun t => XS.dup XL35.here hx rfl (hb hby at_99) rfl rfl) ?_
  show Goes p e below _ (T34.setTop (mkF m 100 #[.val (.int p0), .val (.int p1), .val (.int p2), .unset, .unset, .unset, .unset, .unset] [(.ref b), (.ref b)]))
  refine Goes.go (fun t => XS.bipush XL35.here hx rfl (hb hby at_100)) ?_
  show Goes p e below _ (T34.setTop (mkF m 102 #[.val (.int p0), .val (.int p1), .val (.int p2), .unset, .unset, .unset, .unset, .unset] [(.int (17 : Int32)), (.ref b), (.ref b)]))
  refine Goes.go (fun t => XL35.ldcI hx hown (mvT hZ (hw _ (List.mem_of_getElem? (i := 7) rfl))) rfl (hb hby at_102)) ?_
  show Goes p e below _ (T34.setTop (mkF m 104 #[.val (.int p0), .val (.int p1), .val (.int p2), .unset, .unset, .unset, .unset, .unset] [(.int (65535 : Int32)), (.int (17 : Int32)), (.ref b), (.ref b)]))
  obtain ⟨c36, Ar36, S36, H36⟩ := id V34
  obtain ⟨T36, h36, X36, e36, W36, st36⟩ := stI XL35 hx hZ e34 Ar36 (j := (17 : Int32)) (by rw [S36]; decide) (g := (mkF m 104 #[.val (.int p0), .val (.int p1), .val (.int p2), .unset, .unset, .unset, .unset, .unset] [(.int (65535 : Int32)), (.int (17 : Int32)), (.ref b), (.ref b)])) rfl rfl (hb hby at_104)
  have V36 : own_ai Z h36 b 24 := own_ai.wr V34 W36
  have Z36 : n0 ≤ h36.size := Nat.le_trans Z34 (Nat.le_of_eq W36.size.symm)
  have N36 := Fr.snoc X36 NL35 g_b
  refine Goes.go st36 ?_
  obtain ⟨LL37, XL37, NL37⟩ : ∃ LL : List Loc, Stand p l e room_1 s m #[(.int p0), (.int p1), (.int p2)] below meth c T36 LL 1 24 ∧ Fr n0 LL := ⟨_, X36, N36⟩
  show Goes p e below _ (T36.setTop (mkF m 105 #[.val (.int p0), .val (.int p1), .val (.int p2), .unset, .unset, .unset, .unset, .unset] [(.ref b)]))
  refine Goes.go (fun t => XS.dup XL37.here hx rfl (hb hby at_105) rfl rfl) ?_
  show Goes p e below _ (T36.setTop (mkF m 106 #[.val (.int p0), .val (.int p1), .val (.int p2), .unset, .unset, .unset, .unset, .unset] [(.ref b), (.ref b)]))
  refine Goes.go (fun t => XS.bipush XL37.here hx rfl (hb hby at_106)) ?_
  show Goes p e below _ (T36.setTop (mkF m 108 #[.val (.int p0), .val (.int p1), .val (.int p2), .unset, .unset, .unset, .unset, .unset] [(.int (18 : Int32)), (.ref b), (.ref b)]))
  refine Goes.go (fun t => XL37.ldcI hx hown (mvT hZ (hw _ (List.mem_of_getElem? (i := 8) rfl))) rfl (hb hby at_108)) ?_
  show Goes p e below _ (T36.setTop (mkF m 110 #[.val (.int p0), .val (.int p1), .val (.int p2), .unset, .unset, .unset, .unset, .unset] [(.int (65536 : Int32)), (.int (18 : Int32)), (.ref b), (.ref b)]))
  obtain ⟨c38, Ar38, S38, H38⟩ := id V36
  obtain ⟨T38, h38, X38, e38, W38, st38⟩ := stI XL37 hx hZ e36 Ar38 (j := (18 : Int32)) (by rw [S38]; decide) (g := (mkF m 110 #[.val (.int p0), .val (.int p1), .val (.int p2), .unset, .unset, .unset, .unset, .unset] [(.int (65536 : Int32)), (.int (18 : Int32)), (.ref b), (.ref b)])) rfl rfl (hb hby at_110)
  have V38 : own_ai Z h38 b 24 := own_ai.wr V36 W38
  have Z38 : n0 ≤ h38.size := Nat.le_trans Z36 (Nat.le_of_eq W38.size.symm)
  have N38 := Fr.snoc X38 NL37 g_b
  refine Goes.go st38 ?_
  obtain ⟨LL39, XL39, NL39⟩ : ∃ LL : List Loc, Stand p l e room_1 s m #[(.int p0), (.int p1), (.int p2)] below meth c T38 LL 1 24 ∧ Fr n0 LL := ⟨_, X38, N38⟩
  show Goes p e below _ (T38.setTop (mkF m 111 #[.val (.int p0), .val (.int p1), .val (.int p2), .unset, .unset, .unset, .unset, .unset] [(.ref b)]))
  refine Goes.go (fun t => XS.dup XL39.here hx rfl (hb hby at_111) rfl rfl) ?_
  show Goes p e below _ (T38.setTop (mkF m 112 #[.val (.int p0), .val (.int p1), .val (.int p2), .unset, .unset, .unset, .unset, .unset] [(.ref b), (.ref b)]))
  refine Goes.go (fun t => XS.bipush XL39.here hx rfl (hb hby at_112)) ?_
  show Goes p e below _ (T38.setTop (mkF m 114 #[.val (.int p0), .val (.int p1), .val (.int p2), .unset, .unset, .unset, .unset, .unset] [(.int (19 : Int32)), (.ref b), (.ref b)]))
  refine Goes.go (fun t => XL39.ldcI hx hown (mvT hZ (hw _ (List.mem_of_getElem? (i := 9) rfl))) rfl (hb hby at_114)) ?_
  show Goes p e below _ (T38.setTop (mkF m 116 #[.val (.int p0), .val (.int p1), .val (.int p2), .unset, .unset, .unset, .unset, .unset] [(.int (1114111 : Int32)), (.int (19 : Int32)), (.ref b), (.ref b)]))
  obtain ⟨c40, Ar40, S40, H40⟩ := id V38
  obtain ⟨T40, h40, X40, e40, W40, st40⟩ := stI XL39 hx hZ e38 Ar40 (j := (19 : Int32)) (by rw [S40]; decide) (g := (mkF m 116 #[.val (.int p0), .val (.int p1), .val (.int p2), .unset, .unset, .unset, .unset, .unset] [(.int (1114111 : Int32)), (.int (19 : Int32)), (.ref b), (.ref b)])) rfl rfl (hb hby at_116)
  have V40 : own_ai Z h40 b 24 := own_ai.wr V38 W40
  have Z40 : n0 ≤ h40.size := Nat.le_trans Z38 (Nat.le_of_eq W40.size.symm)
  have N40 := Fr.snoc X40 NL39 g_b
  refine Goes.go st40 ?_
  obtain ⟨LL41, XL41, NL41⟩ : ∃ LL : List Loc, Stand p l e room_1 s m #[(.int p0), (.int p1), (.int p2)] below meth c T40 LL 1 24 ∧ Fr n0 LL := ⟨_, X40, N40⟩
  show Goes p e below _ (T40.setTop (mkF m 117 #[.val (.int p0), .val (.int p1), .val (.int p2), .unset, .unset, .unset, .unset, .unset] [(.ref b)]))
  refine Goes.go (fun t => XS.dup XL41.here hx rfl (hb hby at_117) rfl rfl) ?_
  show Goes p e below _ (T40.setTop (mkF m 118 #[.val (.int p0), .val (.int p1), .val (.int p2), .unset, .unset, .unset, .unset, .unset] [(.ref b), (.ref b)]))
  refine Goes.go (fun t => XS.bipush XL41.here hx rfl (hb hby at_118)) ?_
  show Goes p e below _ (T40.setTop (mkF m 120 #[.val (.int p0), .val (.int p1), .val (.int p2), .unset, .unset, .unset, .unset, .unset] [(.int (20 : Int32)), (.ref b), (.ref b)]))
  refine Goes.go (fun t => XL41.ldcI hx hown (mvT hZ (hw _ (List.mem_of_getElem? (i := 10) rfl))) rfl (hb hby at_120)) ?_
  show Goes p e below _ (T40.setTop (mkF m 122 #[.val (.int p0), .val (.int p1), .val (.int p2), .unset, .unset, .unset, .unset, .unset] [(.int (1114112 : Int32)), (.int (20 : Int32)), (.ref b), (.ref b)]))
  obtain ⟨c42, Ar42, S42, H42⟩ := id V40
  obtain ⟨T42, h42, X42, e42, W42, st42⟩ := stI XL41 hx hZ e40 Ar42 (j := (20 : Int32)) (by rw [S42]; decide) (g := (mkF m 122 #[.val (.int p0), .val (.int p1), .val (.int p2), .unset, .unset, .unset, .unset, .unset] [(.int (1114112 : Int32)), (.int (20 : Int32)), (.ref b), (.ref b)])) rfl rfl (hb hby at_122)
  have V42 : own_ai Z h42 b 24 := own_ai.wr V40 W42
  have Z42 : n0 ≤ h42.size := Nat.le_trans Z40 (Nat.le_of_eq W42.size.symm)
  have N42 := Fr.snoc X42 NL41 g_b
  refine Goes.go st42 ?_
  obtain ⟨LL43, XL43, NL43⟩ : ∃ LL : List Loc, Stand p l e room_1 s m #[(.int p0), (.int p1), (.int p2)] below meth c T42 LL 1 24 ∧ Fr n0 LL := ⟨_, X42, N42⟩
  show Goes p e below _ (T42.setTop (mkF m 123 #[.val (.int p0), .val (.int p1), .val (.int p2), .unset, .unset, .unset, .unset, .unset] [(.ref b)]))
  refine Goes.go (fun t => XS.dup XL43.here hx rfl (hb hby at_123) rfl rfl) ?_
  show Goes p e below _ (T42.setTop (mkF m 124 #[.val (.int p0), .val (.int p1), .val (.int p2), .unset, .unset, .unset, .unset, .unset] [(.ref b), (.ref b)]))
  refine Goes.go (fun t => XS.bipush XL43.here hx rfl (hb hby at_124)) ?_
  show Goes p e below _ (T42.setTop (mkF m 126 #[.val (.int p0), .val (.int p1), .val (.int p2), .unset, .unset, .unset, .unset, .unset] [(.int (21 : Int32)), (.ref b), (.ref b)]))
  refine Goes.go (fun t => XL43.ldcI hx hown (mvT hZ (hw _ (List.mem_of_getElem? (i := 11) rfl))) rfl (hb hby at_126)) ?_
  show Goes p e below _ (T42.setTop (mkF m 128 #[.val (.int p0), .val (.int p1), .val (.int p2), .unset, .unset, .unset, .unset, .unset] [(.int (-2147483648 : Int32)), (.int (21 : Int32)), (.ref b), (.ref b)]))
  obtain ⟨c44, Ar44, S44, H44⟩ := id V42
  obtain ⟨T44, h44, X44, e44, W44, st44⟩ := stI XL43 hx hZ e42 Ar44 (j := (21 : Int32)) (by rw [S44]; decide) (g := (mkF m 128 #[.val (.int p0), .val (.int p1), .val (.int p2), .unset, .unset, .unset, .unset, .unset] [(.int (-2147483648 : Int32)), (.int (21 : Int32)), (.ref b), (.ref b)])) rfl rfl (hb hby at_128)
  have V44 : own_ai Z h44 b 24 := own_ai.wr V42 W44
  have Z44 : n0 ≤ h44.size := Nat.le_trans Z42 (Nat.le_of_eq W44.size.symm)
  have N44 := Fr.snoc X44 NL43 g_b
  refine Goes.go st44 ?_
  obtain ⟨LL45, XL45, NL45⟩ : ∃ LL : List Loc, Stand p l e room_1 s m #[(.int p0), (.int p1), (.int p2)] below meth c T44 LL 1 24 ∧ Fr n0 LL := ⟨_, X44, N44⟩
  show Goes p e below _ (T44.setTop (mkF m 129 #[.val (.int p0), .val (.int p1), .val (.int p2), .unset, .unset, .unset, .unset, .unset] [(.ref b)]))
  refine Goes.go (fun t => XS.dup XL45.here hx rfl (hb hby at_129) rfl rfl) ?_
  show Goes p e below _ (T44.setTop (mkF m 130 #[.val (.int p0), .val (.int p1), .val (.int p2), .unset, .unset, .unset, .unset, .unset] [(.ref b), (.ref b)]))
  refine Goes.go (fun t => XS.bipush XL45.here hx rfl (hb hby at_130)) ?_
  show Goes p e below _ (T44.setTop (mkF m 132 #[.val (.int p0), .val (.int p1), .val (.int p2), .unset, .unset, .unset, .unset, .unset] [(.int (22 : Int32)), (.ref b), (.ref b)]))
  refine Goes.go (fun t => XL45.ldcI hx hown (mvT hZ (hw _ (List.mem_of_getElem? (i := 12) rfl))) rfl (hb hby at_132)) ?_
  show Goes p e below _ (T44.setTop (mkF m 134 #[.val (.int p0), .val (.int p1), .val (.int p2), .unset, .unset, .unset, .unset, .unset] [(.int (2147483647 : Int32)), (.int (22 : Int32)), (.ref b), (.ref b)]))
  obtain ⟨c46, Ar46, S46, H46⟩ := id V44
  obtain ⟨T46, h46, X46, e46, W46, st46⟩ := stI XL45 hx hZ e44 Ar46 (j := (22 : Int32)) (by rw [S46]; decide) (g := (mkF m 134 #[.val (.int p0), .val (.int p1), .val (.int p2), .unset, .unset, .unset, .unset, .unset] [(.int (2147483647 : Int32)), (.int (22 : Int32)), (.ref b), (.ref b)])) rfl rfl (hb hby at_134)
  have V46 : own_ai Z h46 b 24 := own_ai.wr V44 W46
  have Z46 : n0 ≤ h46.size := Nat.le_trans Z44 (Nat.le_of_eq W46.size.symm)
  have N46 := Fr.snoc X46 NL45 g_b
  refine Goes.go st46 ?_
  obtain ⟨LL47, XL47, NL47⟩ : ∃ LL : List Loc, Stand p l e room_1 s m #[(.int p0), (.int p1), (.int p2)] below meth c T46 LL 1 24 ∧ Fr n0 LL := ⟨_, X46, N46⟩
  show Goes p e below _ (T46.setTop (mkF m 135 #[.val (.int p0), .val (.int p1), .val (.int p2), .unset, .unset, .unset, .unset, .unset] [(.ref b)]))
  refine Goes.go (fun t => XS.dup XL47.here hx rfl (hb hby at_135) rfl rfl) ?_
  show Goes p e below _ (T46.setTop (mkF m 136 #[.val (.int p0), .val (.int p1), .val (.int p2), .unset, .unset, .unset, .unset, .unset] [(.ref b), (.ref b)]))
  refine Goes.go (fun t => XS.bipush XL47.here hx rfl (hb hby at_136)) ?_
  show Goes p e below _ (T46.setTop (mkF m 138 #[.val (.int p0), .val (.int p1), .val (.int p2), .unset, .unset, .unset, .unset, .unset] [(.int (23 : Int32)), (.ref b), (.ref b)]))
  refine Goes.go (fun t => XS.iconst XL47.here hx rfl (hb hby at_138)) ?_
  show Goes p e below _ (T46.setTop (mkF m 139 #[.val (.int p0), .val (.int p1), .val (.int p2), .unset, .unset, .unset, .unset, .unset] [(.int (-1 : Int32)), (.int (23 : Int32)), (.ref b), (.ref b)]))
  obtain ⟨c48, Ar48, S48, H48⟩ := id V46
  obtain ⟨T48, h48, X48, e48, W48, st48⟩ := stI XL47 hx hZ e46 Ar48 (j := (23 : Int32)) (by rw [S48]; decide) (g := (mkF m 139 #[.val (.int p0), .val (.int p1), .val (.int p2), .unset, .unset, .unset, .unset, .unset] [(.int (-1 : Int32)), (.int (23 : Int32)), (.ref b), (.ref b)])) rfl rfl (hb hby at_139)
  have V48 : own_ai Z h48 b 24 := own_ai.wr V46 W48
  have Z48 : n0 ≤ h48.size := Nat.le_trans Z46 (Nat.le_of_eq W48.size.symm)
  have N48 := Fr.snoc X48 NL47 g_b
  refine Goes.go st48 ?_
  obtain ⟨LL49, XL49, NL49⟩ : ∃ LL : List Loc, Stand p l e room_1 s m #[(.int p0), (.int p1), (.int p2)] below meth c T48 LL 1 24 ∧ Fr n0 LL := ⟨_, X48, N48⟩
  show Goes p e below _ (T48.setTop (mkF m 140 #[.val (.int p0), .val (.int p1), .val (.int p2), .unset, .unset, .unset, .unset, .unset] [(.ref b)]))
  refine Goes.go (fun t => XS.astoreN XL49.here hx rfl (hb hby at_140) rfl rfl (l' := #[.val (.int p0), .val (.int p1), .val (.int p2), .val (.ref b), .unset, .unset, .unset, .unset]) rfl) ?_
  show Goes p e below _ (T48.setTop (mkF m 141 #[.val (.int p0), .val (.int p1), .val (.int p2), .val (.ref b), .unset, .unset, .unset, .unset] []))
  refine Goes.go (fun t => XS.aloadN XL49.here hx rfl (hb hby at_141) rfl rfl ) ?_
  show Goes p e below _ (T48.setTop (mkF m 142 #[.val (.int p0), .val (.int p1), .val (.int p2), .val (.ref b), .unset, .unset, .unset, .unset] [(.ref b)]))
  refine Goes.go (fun t => XS.iloadN XL49.here hx rfl (hb hby at_142) rfl ) ?_
  show Goes p e below _ (T48.setTop (mkF m 143 #[.val (.int p0), .val (.int p1), .val (.int p2), .val (.ref b), .unset, .unset, .unset, .unset] [(.int p1), (.ref b)]))
  refine Goes.go (fun t => XL49.ldcI hx hown (mvT hZ (hw _ (List.mem_of_getElem? (i := 12) rfl))) rfl (hb hby at_143)) ?_
  show Goes p e below _ (T48.setTop (mkF m 145 #[.val (.int p0), .val (.int p1), .val (.int p2), .val (.ref b), .unset, .unset, .unset, .unset] [(.int (2147483647 : Int32)), (.int p1), (.ref b)]))
  refine Goes.go (fun t => XS.iand XL49.here hx rfl (hb hby at_145) rfl) ?_
  show Goes p e below _ (T48.setTop (mkF m 146 #[.val (.int p0), .val (.int p1), .val (.int p2), .val (.ref b), .unset, .unset, .unset, .unset] [(.int (p1 &&& (2147483647 : Int32))), (.ref b)]))
  refine Goes.go (fun t => XS.aloadN XL49.here hx rfl (hb hby at_146) rfl rfl ) ?_
  show Goes p e below _ (T48.setTop (mkF m 147 #[.val (.int p0), .val (.int p1), .val (.int p2), .val (.ref b), .unset, .unset, .unset, .unset] [(.ref b), (.int (p1 &&& (2147483647 : Int32))), (.ref b)]))
  obtain ⟨cl, Ar, Sl, Hl⟩ := id V48
  have hlen : cl.slots.size.toInt32 = 24 := by rw [Sl]; rfl
  refine Goes.go (XL49.arraylength hx (by rw [e48]; exact Ar.1) (State.isArrayOf_alike hZ.alike Ar.2.1) (g := (mkF m 147 #[.val (.int p0), .val (.int p1), .val (.int p2), .val (.ref b), .unset, .unset, .unset, .unset] [(.ref b), (.int (p1 &&& (2147483647 : Int32))), (.ref b)])) rfl rfl (hb hby at_147)) ?_
  rw [hlen]
  show Goes p e below _ (T48.setTop (mkF m 148 #[.val (.int p0), .val (.int p1), .val (.int p2), .val (.ref b), .unset, .unset, .unset, .unset] [(.int (24 : Int32)), (.int (p1 &&& (2147483647 : Int32))), (.ref b)]))
  refine Goes.go (fun t => iremM XL49 hx rfl (hb hby at_148) rfl (by decide)) ?_
  show Goes p e below _ (T48.setTop (mkF m 149 #[.val (.int p0), .val (.int p1), .val (.int p2), .val (.ref b), .unset, .unset, .unset, .unset] [(.int ((p1 &&& (2147483647 : Int32)) % (24 : Int32))), (.ref b)]))
  obtain ⟨hj1, hj2⟩ := own_idx p1 24 (by decide)
  have hin : ¬ (((p1 &&& (2147483647 : Int32)) % (24 : Int32)) < 0 ∨ cl.slots.size ≤ (((p1 &&& (2147483647 : Int32)) % (24 : Int32))).toNatClampNeg) := by rw [Sl]; exact own_in hj1 hj2
  obtain ⟨w, hat⟩ := Hl (((p1 &&& (2147483647 : Int32)) % (24 : Int32))).toNatClampNeg (by rw [← Sl]; exact Nat.lt_of_not_le fun q => hin (Or.inr q))
  refine Goes.go (XL49.iaload hx (j := ((p1 &&& (2147483647 : Int32)) % (24 : Int32))) (v := .int w) (by rw [e48]; exact Ar.1) (State.isArrayOf_alike hZ.alike Ar.2.1) Ar.2.2 hin hat (g := (mkF m 149 #[.val (.int p0), .val (.int p1), .val (.int p2), .val (.ref b), .unset, .unset, .unset, .unset] [(.int ((p1 &&& (2147483647 : Int32)) % (24 : Int32))), (.ref b)])) rfl rfl (hb hby at_149)) ?_
  show Goes p e below _ (T48.setTop (mkF m 150 #[.val (.int p0), .val (.int p1), .val (.int p2), .val (.ref b), .unset, .unset, .unset, .unset] [(.int w)]))
  refine Goes.go (fun t => XS.istore XL49.here hx rfl (hb hby at_150) rfl (l' := #[.val (.int p0), .val (.int p1), .val (.int p2), .val (.ref b), .val (.int w), .unset, .unset, .unset]) rfl) ?_
  show Goes p e below _ (T48.setTop (mkF m 152 #[.val (.int p0), .val (.int p1), .val (.int p2), .val (.ref b), .val (.int w), .unset, .unset, .unset] []))
  refine Goes.go (fun t => XS.iload XL49.here hx rfl (hb hby at_152) rfl ) ?_
  show Goes p e below _ (T48.setTop (mkF m 154 #[.val (.int p0), .val (.int p1), .val (.int p2), .val (.ref b), .val (.int w), .unset, .unset, .unset] [(.int w)]))
  refine Goes.go (fun t => XS.iloadN XL49.here hx rfl (hb hby at_154) rfl ) ?_
  show Goes p e below _ (T48.setTop (mkF m 155 #[.val (.int p0), .val (.int p1), .val (.int p2), .val (.ref b), .val (.int w), .unset, .unset, .unset] [(.int p2), (.int w)]))
  refine Goes.go (fun t => XS.iconst XL49.here hx rfl (hb hby at_155)) ?_
  show Goes p e below _ (T48.setTop (mkF m 156 #[.val (.int p0), .val (.int p1), .val (.int p2), .val (.ref b), .val (.int w), .unset, .unset, .unset] [(.int (3 : Int32)), (.int p2), (.int w)]))
  refine Goes.go (fun t => XS.iand XL49.here hx rfl (hb hby at_156) rfl) ?_
  show Goes p e below _ (T48.setTop (mkF m 157 #[.val (.int p0), .val (.int p1), .val (.int p2), .val (.ref b), .val (.int w), .unset, .unset, .unset] [(.int (p2 &&& (3 : Int32))), (.int w)]))
  refine Goes.go (fun t => XS.iconst XL49.here hx rfl (hb hby at_157)) ?_
  show Goes p e below _ (T48.setTop (mkF m 158 #[.val (.int p0), .val (.int p1), .val (.int p2), .val (.ref b), .val (.int w), .unset, .unset, .unset] [(.int (1 : Int32)), (.int (p2 &&& (3 : Int32))), (.int w)]))
  refine Goes.go (fun t => XS.isub XL49.here hx rfl (hb hby at_158) rfl) ?_
  show Goes p e below _ (T48.setTop (mkF m 159 #[.val (.int p0), .val (.int p1), .val (.int p2), .val (.ref b), .val (.int w), .unset, .unset, .unset] [(.int ((p2 &&& (3 : Int32)) - (1 : Int32))), (.int w)]))
  refine Goes.go (fun t => XS.iadd XL49.here hx rfl (hb hby at_159) rfl) ?_
  show Goes p e below _ (T48.setTop (mkF m 160 #[.val (.int p0), .val (.int p1), .val (.int p2), .val (.ref b), .val (.int w), .unset, .unset, .unset] [(.int (w + ((p2 &&& (3 : Int32)) - (1 : Int32))))]))
  refine Goes.go (fun t => XS.istore XL49.here hx rfl (hb hby at_160) rfl (l' := #[.val (.int p0), .val (.int p1), .val (.int p2), .val (.ref b), .val (.int w), .val (.int (w + ((p2 &&& (3 : Int32)) - (1 : Int32)))), .unset, .unset]) rfl) ?_
  show Goes p e below _ (T48.setTop (mkF m 162 #[.val (.int p0), .val (.int p1), .val (.int p2), .val (.ref b), .val (.int w), .val (.int (w + ((p2 &&& (3 : Int32)) - (1 : Int32)))), .unset, .unset] []))
  refine Goes.go (fun t => XS.iloadN XL49.here hx rfl (hb hby at_162) rfl ) ?_
  show Goes p e below _ (T48.setTop (mkF m 163 #[.val (.int p0), .val (.int p1), .val (.int p2), .val (.ref b), .val (.int w), .val (.int (w + ((p2 &&& (3 : Int32)) - (1 : Int32)))), .unset, .unset] [(.int p0)]))
  obtain ⟨_, _, ⟨T50, L50, k50, n50⟩, -, X50, ⟨Lc50, hQ50, l50, y50, z50⟩, st50⟩ := Jvm.LawKit.callS XL49 hx (y := (⟨"com/example/thames/thames/model/XmlCharacters", "isXmlCharacter", "(I)Z"⟩ : MethodName)) hown (mvT hZ (hw _ (List.mem_of_getElem? (i := 13) rfl))) (mvT hZ (hw _ (List.mem_of_getElem? (i := 14) rfl))) (mvT hZ (hw _ (List.mem_of_getElem? (i := 15) rfl))) (mvT hZ (hw _ (List.mem_of_getElem? (i := 16) rfl))) (by decide) (backOf (W := 0) (rm1 l Z a0 hw [] p0 h48 n0 Z48) hZ (hw _ (List.mem_of_getElem? (i := 16) rfl)) (hw _ (List.mem_of_getElem? (i := 15) rfl)) (by decide) (by decide)) (g := (mkF m 163 #[.val (.int p0), .val (.int p1), .val (.int p2), .val (.ref b), .val (.int w), .val (.int (w + ((p2 &&& (3 : Int32)) - (1 : Int32)))), .unset, .unset] [(.int p0)])) rfl (by rw [hml]; rfl) (argsL := [(.int p0)]) (rest := []) (lenOf pd0_0 rfl) rfl (by show 2 * 0 + _ ≤ _; exact Nat.le_of_eq rfl) (hb hby at_163) (fun _ _ => ⟨rfl, e48, (by decide : 1 + 0 ≤ _), (by decide : 24 + 0 ≤ _)⟩)
  dsimp only [Pt.U, Pt.locs, Pt.cells, Pt.slots] at X50 l50 y50 z50 st50 hQ50
  subst l50 y50 z50
  obtain ⟨rfl, N50q, e50q⟩ := hQ50
  have N50 := Fr.app NL49 N50q
  refine Goes.go st50 ?_
  have Z50 : n0 ≤ T50.heap.size := by rw [e50q]; exact Z48
  show Goes p e below _ (T50.setTop (mkF m 166 #[.val (.int p0), .val (.int p1), .val (.int p2), .val (.ref b), .val (.int w), .val (.int (w + ((p2 &&& (3 : Int32)) - (1 : Int32)))), .unset, .unset] [(.int (own_xv p0))]))
  refine Goes.go (fun t => XS.iloadN X50.here hx rfl (hb hby at_166) rfl ) ?_
  show Goes p e below _ (T50.setTop (mkF m 167 #[.val (.int p0), .val (.int p1), .val (.int p2), .val (.ref b), .val (.int w), .val (.int (w + ((p2 &&& (3 : Int32)) - (1 : Int32)))), .unset, .unset] [(.int p0), (.int (own_xv p0))]))
  obtain ⟨_, _, ⟨T51, L51, k51, n51⟩, -, X51, ⟨Lc51, hQ51, l51, y51, z51⟩, st51⟩ := Jvm.LawKit.callS X50 hx (y := (⟨"com/example/thames/thames/model/XmlCharactersIsXmlCharacterPinLaw", "expected", "(I)Z"⟩ : MethodName)) hown (mvT hZ (hw _ (List.mem_of_getElem? (i := 19) rfl))) (mvT hZ (hw _ (List.mem_of_getElem? (i := 20) rfl))) (mvT hZ (hw _ (List.mem_of_getElem? (i := 21) rfl))) (mvT hZ (hw _ (List.mem_of_getElem? (i := 22) rfl))) (by decide) (backOf (W := 1) (rm2 l Z a0 hw [] p0 T50.heap n0 Z50) hZ (hw _ (List.mem_of_getElem? (i := 22) rfl)) (hw _ (List.mem_of_getElem? (i := 21) rfl)) (by decide) (by decide)) (g := (mkF m 167 #[.val (.int p0), .val (.int p1), .val (.int p2), .val (.ref b), .val (.int w), .val (.int (w + ((p2 &&& (3 : Int32)) - (1 : Int32)))), .unset, .unset] [(.int p0), (.int (own_xv p0))])) rfl (by rw [hml]; rfl) (argsL := [(.int p0)]) (rest := [(.int (own_xv p0))]) (lenOf pd0_0 rfl) rfl (by show 2 * 0 + _ ≤ _; exact Nat.le_of_eq rfl) (hb hby at_167) (fun _ _ => ⟨rfl, rfl, (by decide : 1 + 0 ≤ _), (by decide : 24 + 0 ≤ _)⟩)
  dsimp only [Pt.U, Pt.locs, Pt.cells, Pt.slots] at X51 l51 y51 z51 st51 hQ51
  subst l51 y51 z51
  obtain ⟨rfl, N51q, e51q⟩ := hQ51
  have N51 := Fr.app N50 N51q
  refine Goes.go st51 ?_
  have Z51 : n0 ≤ T51.heap.size := by rw [e51q]; exact Z50
  show Goes p e below _ (T51.setTop (mkF m 170 #[.val (.int p0), .val (.int p1), .val (.int p2), .val (.ref b), .val (.int w), .val (.int (w + ((p2 &&& (3 : Int32)) - (1 : Int32)))), .unset, .unset] [(.int (own_xv p0)), (.int (own_xv p0))]))
  refine Goes.go (fun t => XS.icmpNo X51.here hx rfl (hb hby at_170) rfl (Jvm.Free.XT.ii_ne_f rfl)) ?_
  show Goes p e below _ (T51.setTop (mkF m 173 #[.val (.int p0), .val (.int p1), .val (.int p2), .val (.ref b), .val (.int w), .val (.int (w + ((p2 &&& (3 : Int32)) - (1 : Int32)))), .unset, .unset] []))
  refine Goes.go (fun t => XS.iconst X51.here hx rfl (hb hby at_173)) ?_
  show Goes p e below _ (T51.setTop (mkF m 174 #[.val (.int p0), .val (.int p1), .val (.int p2), .val (.ref b), .val (.int w), .val (.int (w + ((p2 &&& (3 : Int32)) - (1 : Int32)))), .unset, .unset] [(.int (1 : Int32))]))
  refine Goes.go (fun t => XS.goto X51.here hx rfl (pc0 := 174) (pc' := 178) rfl (hb hby at_174) (by decide) (by decide)) ?_
  show Goes p e below _ (T51.setTop (mkF m 178 #[.val (.int p0), .val (.int p1), .val (.int p2), .val (.ref b), .val (.int w), .val (.int (w + ((p2 &&& (3 : Int32)) - (1 : Int32)))), .unset, .unset] [(.int (1 : Int32))]))
  refine Goes.go (fun t => XS.istore X51.here hx rfl (hb hby at_178) rfl (l' := #[.val (.int p0), .val (.int p1), .val (.int p2), .val (.ref b), .val (.int w), .val (.int (w + ((p2 &&& (3 : Int32)) - (1 : Int32)))), .val (.int (1 : Int32)), .unset]) rfl) ?_
  show Goes p e below _ (T51.setTop (mkF m 180 #[.val (.int p0), .val (.int p1), .val (.int p2), .val (.ref b), .val (.int w), .val (.int (w + ((p2 &&& (3 : Int32)) - (1 : Int32)))), .val (.int (1 : Int32)), .unset] []))
  refine Goes.go (fun t => XS.iload X51.here hx rfl (hb hby at_180) rfl ) ?_
  show Goes p e below _ (T51.setTop (mkF m 182 #[.val (.int p0), .val (.int p1), .val (.int p2), .val (.ref b), .val (.int w), .val (.int (w + ((p2 &&& (3 : Int32)) - (1 : Int32)))), .val (.int (1 : Int32)), .unset] [(.int (w + ((p2 &&& (3 : Int32)) - (1 : Int32))))]))
  obtain ⟨_, _, ⟨T52, L52, k52, n52⟩, -, X52, ⟨Lc52, hQ52, l52, y52, z52⟩, st52⟩ := Jvm.LawKit.callS X51 hx (y := (⟨"com/example/thames/thames/model/XmlCharacters", "isXmlCharacter", "(I)Z"⟩ : MethodName)) hown (mvT hZ (hw _ (List.mem_of_getElem? (i := 13) rfl))) (mvT hZ (hw _ (List.mem_of_getElem? (i := 14) rfl))) (mvT hZ (hw _ (List.mem_of_getElem? (i := 15) rfl))) (mvT hZ (hw _ (List.mem_of_getElem? (i := 16) rfl))) (by decide) (backOf (W := 0) (rm1 l Z a0 hw [] (w + ((p2 &&& (3 : Int32)) - (1 : Int32))) T51.heap n0 Z51) hZ (hw _ (List.mem_of_getElem? (i := 16) rfl)) (hw _ (List.mem_of_getElem? (i := 15) rfl)) (by decide) (by decide)) (g := (mkF m 182 #[.val (.int p0), .val (.int p1), .val (.int p2), .val (.ref b), .val (.int w), .val (.int (w + ((p2 &&& (3 : Int32)) - (1 : Int32)))), .val (.int (1 : Int32)), .unset] [(.int (w + ((p2 &&& (3 : Int32)) - (1 : Int32))))])) rfl (by rw [hml]; rfl) (argsL := [(.int (w + ((p2 &&& (3 : Int32)) - (1 : Int32))))]) (rest := []) (lenOf pd0_0 rfl) rfl (by show 2 * 0 + _ ≤ _; exact Nat.le_of_eq rfl) (hb hby at_182) (fun _ _ => ⟨rfl, rfl, (by decide : 1 + 0 ≤ _), (by decide : 24 + 0 ≤ _)⟩)
  dsimp only [Pt.U, Pt.locs, Pt.cells, Pt.slots] at X52 l52 y52 z52 st52 hQ52
  subst l52 y52 z52
  obtain ⟨rfl, N52q, e52q⟩ := hQ52
  have N52 := Fr.app N51 N52q
  refine Goes.go st52 ?_
  have Z52 : n0 ≤ T52.heap.size := by rw [e52q]; exact Z51
  show Goes p e below _ (T52.setTop (mkF m 185 #[.val (.int p0), .val (.int p1), .val (.int p2), .val (.ref b), .val (.int w), .val (.int (w + ((p2 &&& (3 : Int32)) - (1 : Int32)))), .val (.int (1 : Int32)), .unset] [(.int (own_xv (w + ((p2 &&& (3 : Int32)) - (1 : Int32)))))]))
  refine Goes.go (fun t => XS.iload X52.here hx rfl (hb hby at_185) rfl ) ?_
  show Goes p e below _ (T52.setTop (mkF m 187 #[.val (.int p0), .val (.int p1), .val (.int p2), .val (.ref b), .val (.int w), .val (.int (w + ((p2 &&& (3 : Int32)) - (1 : Int32)))), .val (.int (1 : Int32)), .unset] [(.int (w + ((p2 &&& (3 : Int32)) - (1 : Int32)))), (.int (own_xv (w + ((p2 &&& (3 : Int32)) - (1 : Int32)))))]))
  obtain ⟨_, _, ⟨T53, L53, k53, n53⟩, -, X53, ⟨Lc53, hQ53, l53, y53, z53⟩, st53⟩ := Jvm.LawKit.callS X52 hx (y := (⟨"com/example/thames/thames/model/XmlCharactersIsXmlCharacterPinLaw", "expected", "(I)Z"⟩ : MethodName)) hown (mvT hZ (hw _ (List.mem_of_getElem? (i := 19) rfl))) (mvT hZ (hw _ (List.mem_of_getElem? (i := 20) rfl))) (mvT hZ (hw _ (List.mem_of_getElem? (i := 21) rfl))) (mvT hZ (hw _ (List.mem_of_getElem? (i := 22) rfl))) (by decide) (backOf (W := 1) (rm2 l Z a0 hw [] (w + ((p2 &&& (3 : Int32)) - (1 : Int32))) T52.heap n0 Z52) hZ (hw _ (List.mem_of_getElem? (i := 22) rfl)) (hw _ (List.mem_of_getElem? (i := 21) rfl)) (by decide) (by decide)) (g := (mkF m 187 #[.val (.int p0), .val (.int p1), .val (.int p2), .val (.ref b), .val (.int w), .val (.int (w + ((p2 &&& (3 : Int32)) - (1 : Int32)))), .val (.int (1 : Int32)), .unset] [(.int (w + ((p2 &&& (3 : Int32)) - (1 : Int32)))), (.int (own_xv (w + ((p2 &&& (3 : Int32)) - (1 : Int32)))))])) rfl (by rw [hml]; rfl) (argsL := [(.int (w + ((p2 &&& (3 : Int32)) - (1 : Int32))))]) (rest := [(.int (own_xv (w + ((p2 &&& (3 : Int32)) - (1 : Int32)))))]) (lenOf pd0_0 rfl) rfl (by show 2 * 0 + _ ≤ _; exact Nat.le_of_eq rfl) (hb hby at_187) (fun _ _ => ⟨rfl, rfl, (by decide : 1 + 0 ≤ _), (by decide : 24 + 0 ≤ _)⟩)
  dsimp only [Pt.U, Pt.locs, Pt.cells, Pt.slots] at X53 l53 y53 z53 st53 hQ53
  subst l53 y53 z53
  obtain ⟨rfl, N53q, e53q⟩ := hQ53
  have N53 := Fr.app N52 N53q
  refine Goes.go st53 ?_
  have Z53 : n0 ≤ T53.heap.size := by rw [e53q]; exact Z52
  show Goes p e below _ (T53.setTop (mkF m 190 #[.val (.int p0), .val (.int p1), .val (.int p2), .val (.ref b), .val (.int w), .val (.int (w + ((p2 &&& (3 : Int32)) - (1 : Int32)))), .val (.int (1 : Int32)), .unset] [(.int (own_xv (w + ((p2 &&& (3 : Int32)) - (1 : Int32))))), (.int (own_xv (w + ((p2 &&& (3 : Int32)) - (1 : Int32)))))]))
  refine Goes.go (fun t => XS.icmpNo X53.here hx rfl (hb hby at_190) rfl (Jvm.Free.XT.ii_ne_f rfl)) ?_
  show Goes p e below _ (T53.setTop (mkF m 193 #[.val (.int p0), .val (.int p1), .val (.int p2), .val (.ref b), .val (.int w), .val (.int (w + ((p2 &&& (3 : Int32)) - (1 : Int32)))), .val (.int (1 : Int32)), .unset] []))
  refine Goes.go (fun t => XS.iconst X53.here hx rfl (hb hby at_193)) ?_
  show Goes p e below _ (T53.setTop (mkF m 194 #[.val (.int p0), .val (.int p1), .val (.int p2), .val (.ref b), .val (.int w), .val (.int (w + ((p2 &&& (3 : Int32)) - (1 : Int32)))), .val (.int (1 : Int32)), .unset] [(.int (1 : Int32))]))
  refine Goes.go (fun t => XS.goto X53.here hx rfl (pc0 := 194) (pc' := 198) rfl (hb hby at_194) (by decide) (by decide)) ?_
  show Goes p e below _ (T53.setTop (mkF m 198 #[.val (.int p0), .val (.int p1), .val (.int p2), .val (.ref b), .val (.int w), .val (.int (w + ((p2 &&& (3 : Int32)) - (1 : Int32)))), .val (.int (1 : Int32)), .unset] [(.int (1 : Int32))]))
  refine Goes.go (fun t => XS.istore X53.here hx rfl (hb hby at_198) rfl (l' := #[.val (.int p0), .val (.int p1), .val (.int p2), .val (.ref b), .val (.int w), .val (.int (w + ((p2 &&& (3 : Int32)) - (1 : Int32)))), .val (.int (1 : Int32)), .val (.int (1 : Int32))]) rfl) ?_
  show Goes p e below _ (T53.setTop (mkF m 200 #[.val (.int p0), .val (.int p1), .val (.int p2), .val (.ref b), .val (.int w), .val (.int (w + ((p2 &&& (3 : Int32)) - (1 : Int32)))), .val (.int (1 : Int32)), .val (.int (1 : Int32))] []))
  refine Goes.go (fun t => XS.iload X53.here hx rfl (hb hby at_200) rfl ) ?_
  show Goes p e below _ (T53.setTop (mkF m 202 #[.val (.int p0), .val (.int p1), .val (.int p2), .val (.ref b), .val (.int w), .val (.int (w + ((p2 &&& (3 : Int32)) - (1 : Int32)))), .val (.int (1 : Int32)), .val (.int (1 : Int32))] [(.int (1 : Int32))]))
  refine Goes.go (fun t => XS.ifNo X53.here hx rfl (hb hby at_202) rfl (Jvm.Free.XT.i0_eq_f (by decide))) ?_
  show Goes p e below _ (T53.setTop (mkF m 205 #[.val (.int p0), .val (.int p1), .val (.int p2), .val (.ref b), .val (.int w), .val (.int (w + ((p2 &&& (3 : Int32)) - (1 : Int32)))), .val (.int (1 : Int32)), .val (.int (1 : Int32))] []))
  refine Goes.go (fun t => XS.iload X53.here hx rfl (hb hby at_205) rfl ) ?_
  show Goes p e below _ (T53.setTop (mkF m 207 #[.val (.int p0), .val (.int p1), .val (.int p2), .val (.ref b), .val (.int w), .val (.int (w + ((p2 &&& (3 : Int32)) - (1 : Int32)))), .val (.int (1 : Int32)), .val (.int (1 : Int32))] [(.int (1 : Int32))]))
  refine Goes.go (fun t => XS.ifNo X53.here hx rfl (hb hby at_207) rfl (Jvm.Free.XT.i0_eq_f (by decide))) ?_
  show Goes p e below _ (T53.setTop (mkF m 210 #[.val (.int p0), .val (.int p1), .val (.int p2), .val (.ref b), .val (.int w), .val (.int (w + ((p2 &&& (3 : Int32)) - (1 : Int32)))), .val (.int (1 : Int32)), .val (.int (1 : Int32))] []))
  refine Goes.go (fun t => XS.iconst X53.here hx rfl (hb hby at_210)) ?_
  show Goes p e below _ (T53.setTop (mkF m 211 #[.val (.int p0), .val (.int p1), .val (.int p2), .val (.ref b), .val (.int w), .val (.int (w + ((p2 &&& (3 : Int32)) - (1 : Int32)))), .val (.int (1 : Int32)), .val (.int (1 : Int32))] [(.int (1 : Int32))]))
  refine Goes.go (fun t => XS.goto X53.here hx rfl (pc0 := 211) (pc' := 215) rfl (hb hby at_211) (by decide) (by decide)) ?_
  show Goes p e below _ (T53.setTop (mkF m 215 #[.val (.int p0), .val (.int p1), .val (.int p2), .val (.ref b), .val (.int w), .val (.int (w + ((p2 &&& (3 : Int32)) - (1 : Int32)))), .val (.int (1 : Int32)), .val (.int (1 : Int32))] [(.int (1 : Int32))]))
  exact Goes.out X53 (fun h => by rw [Bd.returns] at h; cases h) Bd.notSynchronized (fun fs hr => retN X53 hx (t := .boolean) Bd.returns (by simp) (hb hby at_215) hr) ⟨rfl, N53⟩ (by decide) (by decide)
set_option maxRecDepth 65536 in
set_option maxHeartbeats 40000000 in
theorem comes_1 {Post : Tables → Env → Array Value → State → Outcome → State → Prop} (hpost : ∀ tb e args s v u, (limb_1_1.after args s (.returned v) u = true ∧ limb_1_2.after args s (.returned v) u = true ∧ True) → FrameEnd s (.returned v) u (Jvm.fieldLocs frame_1_writes args s ++ Jvm.arrayLocs frame_1_arrays args s ++ Jvm.staticLocs frame_1_statics s) 16 128 → Post tb e args s (.returned v) u) :
    ArmFor flags0 classFile x code maxLocals ret World_1 tables_1 room_1 Calls_1 rest_1 Pre_1 Post := by
  intro l hfl _ _ p e ha hc hk s m args below hf hA hF happ hP
  obtain ⟨hcalls, hrest, hpre⟩ := hP
  obtain ⟨-, -, -, hnamed, -, -, -, hat⟩ := (Spec.applies_iff hf).mp happ
  obtain ⟨hg, hn⟩ := and_e (Cond.before_iff.mp (show (Jvm.Cond.and given_1 narrow_1).before args s = true from hpre))
  obtain ⟨gc, gv0⟩ := and_e hg
  obtain ⟨ga0, gv1⟩ := and_e gv0
  obtain ⟨ga1, gv2⟩ := and_e gv1
  obtain ⟨w0, w1, w2, rfl⟩ : ∃ w0 w1 w2 : Value, args = #[w0, w1, w2] := by
    have hs : args.size = 3 := by simpa [Cond.value, given_1] using gc
    obtain ⟨L⟩ := args
    match L, hs with
    | [w0, w1, w2], _ => exact ⟨w0, w1, w2, rfl⟩
  have hw := fun d (hd : d ∈ tables_1) => atoms_spec (ws := Jvm.Cond.code x code maxLocals ret :: tables_1) hat d (List.mem_cons_of_mem _ hd)
  have hfit : Fit s := fun {y c} hc i hi => by
    obtain ⟨ha, rfl⟩ := Array.getElem?_eq_some_iff.mp hc
    have q := List.all_eq_true.mp ((Array.all_eq_true_iff_forall_mem.mp hF) _ (Array.getElem_mem ha)) i (List.mem_range.mpr hi)
    simpa [Array.getElem?_eq_getElem hi] using q
  obtain ⟨i0, ei0⟩ := is_v ga0
  obtain rfl : w0 = (.int i0) := Option.some.inj ei0
  obtain ⟨i1, ei1⟩ := is_v ga1
  obtain rfl : w1 = (.int i1) := Option.some.inj ei1
  obtain ⟨i2, ei2⟩ := is_v gv2
  obtain rfl : w2 = (.int i2) := Option.some.inj ei2
  obtain ⟨n, o, h1, h2, h3, _, L, rfl, ⟨rfl, N⟩, hq⟩ := rm0 l s _ hw tables_1 i0 i1 i2 s.heap s.heap.size (Nat.le_refl _) p e ha hc hk s m _ below hf ((Spec.applies_iff_loose hf).mp happ).1 ⟨rfl, State.Warmed39.refl s, rfl⟩ trivial
  refine ⟨n, _, h1, h2, h3, hpost _ _ _ _ _ _ ⟨Cond.after_iff.mpr rfl, Cond.after_iff.mpr (eq_i res_at (Term.int_eval (1)) rfl), trivial⟩ ⟨hq.1, hq.2.1, (hq.2.2.sift fun y hy => Or.inr (N y hy)).mono (by decide) (by decide)⟩⟩
theorem main_1_1 : Claimed_1_1 := comes_1 fun _ _ _ _ _ _ h hF => ⟨h.1, hF⟩
theorem main_1_2 : Claimed_1_2 := comes_1 fun _ _ _ _ _ _ h hF => ⟨h.2.1, hF⟩
end Jvm.Pilot.@@N@@
namespace Jvm.Pilot.@@N@@
open Jvm Jvm.ClassFile Sem Op Lib Jvm.Free Jvm.Stand Jvm.Pilot.@@N@@.Jvm.D
/-! MADE BY PROGRAM (witnessworld.py) out of the Statement's table words and the real class files: 9 classes; the members and pool entries that the words name. The judged class is class 1, her method 2. -/
namespace start1
open Jvm.ClassFile
def u (s : String) : CpInfo := .utf8 (stringToUtf16 s)
/-- a pool by its gaps: so many unusable entries, then the entry; so many at the end -/
def gap : Nat → List CpInfo → List CpInfo
  | 0, r => r
  | n + 1, r => .unusable :: gap n r
def poolList (es : List (Nat × CpInfo)) (last : Nat) : List CpInfo := es.foldr (fun e r => gap e.1 (e.2 :: r)) (gap last [])
def pool (es : List (Nat × CpInfo)) (last : Nat) : Array CpInfo := ⟨poolList es last⟩
def fileOf (pool : Array CpInfo) (this : Nat) (attrs : Array Attribute := #[]) (ms : Array MethodInfo := #[]) (fl : Nat := 33) (sup : Nat := 0) (ifs : Array Nat := #[]) (fds : Array FieldInfo := #[]) : ClassFile where
  minorVersion := 0
  majorVersion := 65
  constantPool := pool
  accessFlags := fl
  thisClass := this
  superClass := sup
  interfaces := ifs
  fields := fds
  methods := ms
  attributes := attrs
def plain (name : String) (sup : Option ClassId) : Class where
  name := name
  kind := .ordinary
  loader := none
  accessFlags := 33
  super := sup
  interfaces := #[]
  cf := none
  fields := #[]
  methods := #[]
  instanceTypes := #[]
  staticTypes := #[]
  resolved := #[]
  callSites := []
  init := .initialized
  statics := none
  mirror := none

def pool0 : Array CpInfo := pool [(5, u "<init>"), (0, u "()V"), (1, .class_ 10), (1, u "java/lang/Object")] 113

def k0m0 : Method := { name := "<init>", desc := "()V", sig := { parameters := [], returnType := none }, accessFlags := 1, code := none }
/-- java/lang/Object -/
def k0 : Class := { plain "java/lang/Object" none with
  accessFlags := 33
  interfaces := #[]
  cf := some (fileOf pool0 8 #[] #[{ accessFlags := 1, nameIndex := 5, descriptorIndex := 6, attributes := #[] }] 33 0 #[] #[])
  fields := #[]
  methods := #[k0m0]
  instanceTypes := #[]
  staticTypes := #[]
  resolved := Array.replicate 124 none
  statics := none }

def pool1 : Array CpInfo := pool [(2, .class_ 4), (1, u "java/lang/Object"), (0, u "<init>"), (0, u "()V"), (0, .integer 1114111), (0, .integer 55296), (0, .integer 57343), (0, .integer 65534), (0, .integer 65535), (0, .integer 55295), (0, .integer 57344), (0, .integer 65533), (0, .integer 65536), (0, .integer 1114112), (2, .integer 2147483648), (0, .integer 2147483647), (0, .methodref 22 23), (0, .class_ 24), (0, .nameAndType 25 26), (0, u "com/example/thames/thames/model/XmlCharacters"), (0, u "isXmlCharacter"), (0, u "(I)Z"), (0, .methodref 28 29), (0, .class_ 30), (0, .nameAndType 31 26), (0, u "com/example/thames/thames/model/XmlCharactersIsXmlCharacterPinLaw"), (0, u "expected"), (3, u "law"), (0, u "(III)Z")] 4

def k1m0 : Method := { name := "<init>", desc := "()V", sig := { parameters := [], returnType := none }, accessFlags := 2, code := none }
def k1c1 : Code := { maxStack := 2, maxLocals := 1, code := method_2_code, exceptionTable := #[], attributes := #[] }
def k1m1 : Method := { name := "expected", desc := "(I)Z", sig := { parameters := [.int], returnType := some .boolean }, accessFlags := 10, code := some k1c1 }
def k1c2 : Code := { maxStack := 4, maxLocals := 8, code := code, exceptionTable := #[], attributes := #[] }
def k1m2 : Method := { name := "law", desc := "(III)Z", sig := { parameters := [.int, .int, .int], returnType := some .boolean }, accessFlags := 9, code := some k1c2 }
/-- com/example/thames/thames/model/XmlCharactersIsXmlCharacterPinLaw -/
def k1 : Class := { plain "com/example/thames/thames/model/XmlCharactersIsXmlCharacterPinLaw" (some 0) with
  accessFlags := 49
  interfaces := #[]
  cf := some (fileOf pool1 28 #[] #[{ accessFlags := 2, nameIndex := 5, descriptorIndex := 6, attributes := #[] }, { accessFlags := 10, nameIndex := 31, descriptorIndex := 26, attributes := #[] }, { accessFlags := 9, nameIndex := 35, descriptorIndex := 36, attributes := #[] }] 49 2 #[] #[])
  fields := #[]
  methods := #[k1m0, k1m1, k1m2]
  instanceTypes := #[]
  staticTypes := #[]
  resolved := Array.replicate 41 none
  statics := none }

def pool2 : Array CpInfo := pool [(2, .class_ 4), (1, u "java/lang/Object"), (0, u "<init>"), (0, u "()V"), (11, .class_ 20), (1, u "com/example/thames/thames/model/XmlCharacters"), (1, u "(I)Z"), (18, .integer 55295), (0, .integer 57344), (0, .integer 65533), (0, .integer 65536), (0, .integer 1114111), (6, u "isXmlCharacter"), (50, u "ASCII_NAME_START_CHARS"), (0, u "[Z"), (2, u "NAME_START_CHARS"), (0, u "[[I"), (6, u "ASCII_NAME_CHARS"), (2, u "NAME_CHARS_AFTER_START")] 25

def k2m0 : Method := { name := "<init>", desc := "()V", sig := { parameters := [], returnType := none }, accessFlags := 2, code := none }
def k2c1 : Code := { maxStack := 2, maxLocals := 1, code := prog_227_method_5_code, exceptionTable := #[], attributes := #[] }
def k2m1 : Method := { name := "isXmlCharacter", desc := "(I)Z", sig := { parameters := [.int], returnType := some .boolean }, accessFlags := 9, code := some k2c1 }
/-- com/example/thames/thames/model/XmlCharacters -/
def k2 : Class := { plain "com/example/thames/thames/model/XmlCharacters" (some 0) with
  accessFlags := 49
  interfaces := #[]
  cf := some (fileOf pool2 18 #[] #[{ accessFlags := 2, nameIndex := 5, descriptorIndex := 6, attributes := #[] }, { accessFlags := 9, nameIndex := 52, descriptorIndex := 22, attributes := #[] }] 49 2 #[] #[{ accessFlags := 26, nameIndex := 107, descriptorIndex := 108, attributes := #[] }, { accessFlags := 26, nameIndex := 118, descriptorIndex := 108, attributes := #[] }, { accessFlags := 26, nameIndex := 103, descriptorIndex := 104, attributes := #[] }, { accessFlags := 26, nameIndex := 115, descriptorIndex := 104, attributes := #[] }])
  fields := #[{ name := "NAME_START_CHARS", type := (.array (.array .int)), accessFlags := 26, slot := 0, constantValue := 0 }, { name := "NAME_CHARS_AFTER_START", type := (.array (.array .int)), accessFlags := 26, slot := 1, constantValue := 0 }, { name := "ASCII_NAME_START_CHARS", type := (.array .boolean), accessFlags := 26, slot := 2, constantValue := 0 }, { name := "ASCII_NAME_CHARS", type := (.array .boolean), accessFlags := 26, slot := 3, constantValue := 0 }]
  methods := #[k2m0, k2m1]
  instanceTypes := #[]
  staticTypes := #[(.array (.array .int)), (.array (.array .int)), (.array .boolean), (.array .boolean)]
  resolved := Array.replicate 144 none
  statics := none }

def pool3 : Array CpInfo := pool [(1, u "java/lang/Cloneable"), (0, .class_ 1), (0, u "java/lang/Object"), (0, .class_ 3)] 3

/-- java/lang/Cloneable -/
def k3 : Class := { plain "java/lang/Cloneable" (some 0) with
  accessFlags := 1537
  interfaces := #[]
  cf := some (fileOf pool3 2 #[] #[] 1537 4 #[] #[])
  fields := #[]
  methods := #[]
  instanceTypes := #[]
  staticTypes := #[]
  resolved := Array.replicate 8 none
  statics := none }

def pool4 : Array CpInfo := pool [(1, u "java/io/Serializable"), (0, .class_ 1), (0, u "java/lang/Object"), (0, .class_ 3)] 3

/-- java/io/Serializable -/
def k4 : Class := { plain "java/io/Serializable" (some 0) with
  accessFlags := 1537
  interfaces := #[]
  cf := some (fileOf pool4 2 #[] #[] 1537 4 #[] #[])
  fields := #[]
  methods := #[]
  instanceTypes := #[]
  staticTypes := #[]
  resolved := Array.replicate 8 none
  statics := none }

/-- the primitive byte -/
def k5 : Class := { plain "byte" none with kind := .primitive 'B', accessFlags := 0x411 }
/-- [B -/
def k6 : Class := { plain "[B" (some 0) with kind := .array 5 .byte, interfaces := #[3, 4], accessFlags := 1041 }

/-- the primitive int -/
def k7 : Class := { plain "int" none with kind := .primitive 'I', accessFlags := 0x411 }
/-- [I -/
def k8 : Class := { plain "[I" (some 0) with kind := .array 7 .int, interfaces := #[3, 4], accessFlags := 1041 }

def heap : Heap := #[]
def classes : Array Class := #[k0, k1, k2, k3, k4, k5, k6, k7, k8]
def interned : List (Array UInt16 × Addr) := []
def slotsUsed : Nat := 0
def theMethod : MethodId := ⟨1, 2⟩
def args0 : Array Value := #[.int 5, .int 3, .int 2]
def aboutOver (below : List Frame) : State where
  vm := { classes := classes, interned := interned.toArray }
  heap := heap
  slotsUsed := slotsUsed
  threads := #[{ frames := .invoking theMethod args0 :: below }]
def below0 : List Frame := [.native { method := ⟨0, 0⟩, args := #[] }]
def about1 : State := aboutOver below0
def p0 : Program := .bare "" "" ""
def e0 : Env := launch0.env 0 0 0
theorem w_frames : about1.frames = Frame.invoking theMethod args0 :: below0 := rfl
set_option maxRecDepth 65536 in
theorem w_args : argsFit about1.vm theMethod args0 = true := by decide +kernel
set_option maxRecDepth 65536 in
theorem w_heap : heapFits about1 = true := by decide +kernel
set_option maxRecDepth 65536 in
theorem w_runnable : about1.curStatus? = some .runnable := by decide +kernel
set_option maxRecDepth 65536 in
theorem w_alone : about1.alone = true := by decide +kernel
set_option maxRecDepth 65536 in
theorem w_named : about1.methodNamed? x = some theMethod := by decide +kernel
set_option maxRecDepth 65536 in
theorem w_hears : about1.hears theMethod below0 = true := by decide +kernel
set_option maxRecDepth 65536 in
theorem w_ripe : about1.ripe theMethod args0 below0 = true := by decide +kernel
theorem w_running : about1.status = .running := rfl
set_option maxRecDepth 65536 in
theorem w_room : about1.hasRoom e0.platform room_1 = true :=
  launch0.hasRoom_least _ room_1 (by decide +kernel) (by decide +kernel) (by decide +kernel) (by decide +kernel) (by decide +kernel) (by decide +kernel)
theorem allAtoms_all (ts : List Jvm.Cond) (a : Array Jvm.Value) (st : Jvm.State) : (allAtoms ts).before a st = ts.all (fun c => c.before a st) := by
  induction ts with
  | nil => rfl
  | cons c t ih =>
    show (Jvm.Cond.and c (allAtoms t)).before a st = _
    rw [Jvm.Cond.before_and, ih, List.all_cons]
def words1 : List Jvm.Cond := Jvm.Cond.code x code maxLocals ret :: tables_1
/-- a 'code' word, met by the world's own term for the bytes: nothing is compared byte by byte -/
theorem code_word {y : MethodName} {bytes : ByteArray} {mx : Nat} {rt : Option FieldType} {a : Array Value} {s : State} {m : MethodId} {meth : Method} {c : Code} (h1 : s.methodNamed? y = some m) (h2 : s.vm.method? m = some meth) (h3 : meth.code = some c) (h4 : c.code = bytes)
    (h5 : (c.maxLocals == mx && c.exceptionTable.isEmpty && decide (c.maxStack ≤ mostOperands) && decide (meth.sig.returnType = rt) && !meth.locks && decide (parseMethodDescriptor y.desc = some meth.sig)) = true) : (Jvm.Cond.code y bytes mx rt).before a s = true := by
  simp only [Bool.and_eq_true, beq_iff_eq, Bool.not_eq_true', decide_eq_true_eq] at h5
  obtain ⟨⟨⟨⟨⟨g1, g2⟩, g3⟩, g4⟩, g5⟩, g6⟩ := h5
  simp [Cond.before, Cond.holds, Cond.value, h1, h2, h3, h4, g1, g2, g3, g4, g5, g6]
def isCode : Jvm.Cond → Bool
  | .code _ _ _ _ => true
  | _ => false
theorem all_split {L : List Jvm.Cond} {P : Jvm.Cond → Bool} (h1 : L.all (fun c => isCode c || P c) = true) (h2 : ∀ c ∈ L.filter isCode, P c = true) : L.all P = true := by
  refine List.all_eq_true.mpr fun c hc => ?_
  have h := List.all_eq_true.mp h1 c hc
  rcases Bool.eq_false_or_eq_true (isCode c) with hi | hi
  · exact h2 c (List.mem_filter.mpr ⟨hc, hi⟩)
  · simpa [hi] using h
set_option maxRecDepth 65536 in
theorem w_c0 : (Jvm.Cond.code x code maxLocals ret).before args0 about1 = true := code_word (m := ⟨1, 2⟩) (meth := k1m2) (c := k1c2) (by decide +kernel) rfl rfl rfl (by decide +kernel)
set_option maxRecDepth 65536 in
theorem w_c1 : (Jvm.Cond.code ({ cls := "com/example/thames/thames/model/XmlCharacters", name := "isXmlCharacter", desc := "(I)Z" } : Jvm.MethodName) prog_227_method_5_code (1 : Nat) (Option.some Jvm.ClassFile.FieldType.boolean)).before args0 about1 = true := code_word (m := ⟨2, 1⟩) (meth := k2m1) (c := k2c1) (by decide +kernel) rfl rfl rfl (by decide +kernel)
set_option maxRecDepth 65536 in
theorem w_c2 : (Jvm.Cond.code ({ cls := "com/example/thames/thames/model/XmlCharactersIsXmlCharacterPinLaw", name := "expected", desc := "(I)Z" } : Jvm.MethodName) method_2_code (1 : Nat) (Option.some Jvm.ClassFile.FieldType.boolean)).before args0 about1 = true := code_word (m := ⟨1, 1⟩) (meth := k1m1) (c := k1c1) (by decide +kernel) rfl rfl rfl (by decide +kernel)
def codes1 : List Jvm.Cond := [Jvm.Cond.code x code maxLocals ret, Jvm.Cond.code ({ cls := "com/example/thames/thames/model/XmlCharacters", name := "isXmlCharacter", desc := "(I)Z" } : Jvm.MethodName) prog_227_method_5_code (1 : Nat) (Option.some Jvm.ClassFile.FieldType.boolean), Jvm.Cond.code ({ cls := "com/example/thames/thames/model/XmlCharactersIsXmlCharacterPinLaw", name := "expected", desc := "(I)Z" } : Jvm.MethodName) method_2_code (1 : Nat) (Option.some Jvm.ClassFile.FieldType.boolean)]
set_option maxRecDepth 65536 in
theorem codes_eq : words1.filter isCode = codes1 := rfl
theorem w_codes : ∀ c ∈ words1.filter isCode, c.before args0 about1 = true := by
  rw [codes_eq]
  intro c hc
  simp only [codes1, List.mem_cons, List.not_mem_nil, or_false] at hc
  rcases hc with rfl | rfl | rfl
  · exact w_c0
  · exact w_c1
  · exact w_c2
set_option maxRecDepth 65536 in
theorem w_t1 : (words1.take 24).all (fun c => isCode c || c.before args0 about1) = true := by decide +kernel
set_option maxRecDepth 65536 in
theorem w_t2 : (words1.drop 24).all (fun c => isCode c || c.before args0 about1) = true := by decide +kernel
theorem w_tables : (allAtoms (Jvm.Cond.code x code maxLocals ret :: tables_1)).before args0 about1 = true := by
  rw [allAtoms_all]
  show words1.all (fun c => c.before args0 about1) = true
  refine all_split ?_ w_codes
  rw [← List.take_append_drop 24 words1, List.all_append, w_t1, w_t2]
  rfl
set_option maxRecDepth 65536 in
theorem w_case : (Jvm.Cond.and given_1 narrow_1).before args0 about1 = true := by decide +kernel
theorem w_applies : (headSpec (Jvm.Cond.code x code maxLocals ret :: tables_1) room_1).applies x e0.platform about1 = true :=
  (Spec.applies_iff w_frames).mpr ⟨w_running, w_runnable, w_alone, w_named, w_hears, w_ripe, w_room, w_tables⟩
theorem atStart : AtStart classFile x code maxLocals ret World_1 tables_1 room_1 Calls_1 rest_1 Pre_1 launch0 p0 e0 about1 theMethod args0 below0 :=
  ⟨lists_1, trivial, launch0.admits_env _ _ _, launch0.least_env, fairChoices_fair.cas, fairChoices_fair.clock, w_frames, w_args, w_heap, w_applies, trivial, trivial, w_case⟩
end start1
theorem witness_1 : WitnessClaimed_1 := ⟨start1.p0, start1.e0, start1.about1, start1.theMethod, start1.args0, start1.below0, start1.atStart⟩
end Jvm.Pilot.@@N@@
