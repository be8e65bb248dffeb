import JvmDerived
import JvmDerived.Pilot.@@N@@Statement
import JvmDerived.Pilot.@@N@@Code
set_option linter.unusedVariables false
set_option linter.unusedSimpArgs false
@@BLOCK:NumsL.lean.txt@@
namespace Jvm.RoadKit
open Sem ClassFile Op Lib Jvm.Stand Jvm.Free Jvm.LawKit
section New
variable {p : Program} {l : Launch} {e : Env} {R : Room} {s : State} {m : MethodId} {args : Array Value} {below : List Frame} {meth : Method} {c : Code} {T : State} {locs : List Loc} {cells slots : Nat}
theorem retI (X : Stand p l e R s m args below meth c T locs cells slots) (hx : p.tables.exec = Jvm.exec) {pc : Nat} {Ls : Array Slot} {z : Int32} {rest : List Value} (hret : meth.sig.returnType = some .int) (hd : decode c.code pc = .ok (.ireturn, 1)) {fs : List Frame}
    (hl : ∀ (f : JFrame) (acts : List Action), f.method = m → f.locked = none → f.entered = [] → (doReturn e (T.setTop f) acts (some (.int z))).1 = T.setFrames fs) : Steps p.tables e below (T.setTop (mkF m pc Ls (.int z :: rest))) (T.setFrames fs) := by
  have hm' : T.vm.method? m = some meth := X.method'
  have hn : narrow .int (.int z) = .int z := rfl
  show Steps p.tables e below (T.setTop { method := m, pc := pc, locals := Ls, stack := _ :: rest, locked := none }) _
  jvm_step X.here [X.here.top, hx, hd, hm', hret, hn]
  first | (intro acts; rw [hl _ acts rfl rfl rfl]) | rw [hl _ _ rfl rfl rfl]
  exact Steps.refl _
end New
end Jvm.RoadKit
namespace Jvm.Pilot.@@N@@
open Jvm Jvm.ClassFile Sem Op Lib Jvm.Free Jvm.Stand Jvm.LawKit Jvm.RoadKit Bundle Jvm.Pilot.@@N@@.Jvm.D
/-! from here the body runs to its end, and leaves what Q says -/
def Goes (p : Program) (e : Env) (below : List Frame) (Q : Outcome → State → Prop) (st : State) : Prop :=
  ∃ s₂ o, Steps p.tables e below st s₂ ∧ s₂.status = .running ∧ Ended s₂ below o ∧ Q o s₂
theorem Goes.go {p : Program} {e : Env} {below : List Frame} {Q : Outcome → State → Prop} {st st' : State} (h : ∀ t, Steps p.tables e below st' t → Steps p.tables e below st t) (k : Goes p e below Q st') : Goes p e below Q st := by
  obtain ⟨s₂, o, h1, h2⟩ := k
  exact ⟨s₂, o, h _ h1, h2⟩
theorem Goes.via {p : Program} {e : Env} {below : List Frame} {Q : Outcome → State → Prop} {st st' : State} (h : Steps p.tables e below st st') (k : Goes p e below Q st') : Goes p e below Q st :=
  Goes.go (fun _ q => h.trans q) k
theorem Goes.out {p : Program} {l : Launch} {e : Env} {R : Room} {s : State} {m : MethodId} {args : Array Value} {below : List Frame} {meth : Method} {c : Code} {T : State} {locs : List Loc} {cells slots : Nat}
    (X : Stand p l e R s m args below meth c T locs cells slots) {v : Option Value} {g : JFrame} (hv : meth.sig.returnType = none → v = none) (hlocks : meth.locks = false)
    (hst : ∀ fs : List Frame, (∀ (f : JFrame) (acts : List Action), f.method = m → f.locked = none → f.entered = [] → (doReturn e (T.setTop f) acts v).1 = T.setFrames fs) → Steps p.tables e below (T.setTop g) (T.setFrames fs))
    {Qn : Option Value → Heap → List Loc → Prop} {C S : Nat} (hq : Qn v T.heap locs) (hC : cells ≤ C) (hS : slots ≤ S) :
    Goes p e below (fun o U' => ∃ v L, o = .returned v ∧ Qn v U'.heap L ∧ FrameEnd s o U' L C S) (T.setTop g) := by
  obtain ⟨fs, hr, hrun, hended, hW, hsame⟩ := X.leave (v := v) hv hlocks
  exact ⟨_, _, hst fs hr, hrun, hended, _, _, rfl, hq, ⟨_, rfl⟩, hW, hsame.mono hC hS⟩

theorem own_idx (p n : Int32) (hn : 0 < n.toInt) : 0 ≤ ((p &&& (2147483647 : Int32)) % n).toInt ∧ ((p &&& (2147483647 : Int32)) % n).toInt < n.toInt := by
  have h1 : (p &&& (2147483647 : Int32)).toInt = p.toInt % 2 ^ 31 := Jvm.Kit.i32_mask p 2147483647 (k := 31) (by decide) (by decide)
  have h2 : 0 ≤ (p &&& (2147483647 : Int32)).toInt := by rw [h1]; exact Int.emod_nonneg _ (by decide)
  rw [Jvm.Kit.i32_rem_nonneg h2]
  exact ⟨Int.emod_nonneg _ (by omega), Int.emod_lt_of_pos _ hn⟩
theorem own_in {j : Int32} {n : Nat} (h1 : 0 ≤ j.toInt) (h2 : j.toInt < (n : Int)) : ¬ (j < 0 ∨ n ≤ j.toNatClampNeg) := by
  simp only [Int32.lt_iff_toInt_lt, Int32.toNatClampNeg, Int32.reduceToInt]; omega
theorem own_off {o k : Int32} (h1 : 0 ≤ o.toInt) (h2 : o.toInt < 5) (k1 : 0 ≤ k.toInt) (k2 : k.toInt < 5) : (o + k).toInt = o.toInt + k.toInt := Jvm.Kit.i32_add (by omega) (by omega)
theorem own_in8 {o : Int32} (h1 : 0 ≤ o.toInt) (h2 : o.toInt < 5) : ¬ (o < 0 ∨ 8 ≤ o.toNatClampNeg) := own_in h1 (by omega)
theorem own_inK {o k : Int32} (h1 : 0 ≤ o.toInt) (h2 : o.toInt < 5) (k1 : 0 ≤ k.toInt) (k2 : k.toInt < 4) : ¬ (o + k < 0 ∨ 8 ≤ (o + k).toNatClampNeg) := by
  have e := own_off h1 h2 k1 (by omega)
  exact own_in (by omega) (by omega)
theorem own_clamp {o k : Int32} (h1 : 0 ≤ o.toInt) (h2 : o.toInt < 5) (k1 : 0 ≤ k.toInt) (k2 : k.toInt < 5) : (o + k).toNatClampNeg = o.toNatClampNeg + k.toNatClampNeg := by
  have e := own_off h1 h2 k1 k2
  simp only [Int32.toNatClampNeg, e]; omega
/-- the bytes of an array of eight -/
def own_ab (Z : State) (h : Heap) (a : Addr) (f : Nat → Int32) : Prop := ∃ c : Cell, Arr Z h a c .byte ∧ c.slots.size = 8 ∧ ∀ i, i < 8 → c.slots[i]? = some (.int (f i))
theorem own_ab.made {Z : State} {h : Heap} {a : Addr} {k : ClassId} {z : Int32} (A : Arr Z h a (newA k .byte z) .byte) (hn : z.toNatClampNeg = 8) : own_ab Z h a (fun _ => 0) :=
  ⟨_, A, by rw [sz_new, hn], fun i hi => by simp [newA, hn, hi, defaultValue]⟩
theorem own_ab.wr {Z : State} {h h' : Heap} {a : Addr} {f : Nat → Int32} {sl : Nat} {x : Int32} (A : own_ab Z h a f) (W : Wr h h' a sl (.int x)) : own_ab Z h' a (fun i => if i = sl then x else f i) := by
  obtain ⟨c, A, S, H⟩ := A
  refine ⟨_, A.same W, by rw [sz_set, S], fun i hi => ?_⟩
  by_cases e : i = sl
  · subst e; simp [Cell.setSlot, S, hi]
  · simp only [Cell.setSlot, if_neg e]; rw [Array.getElem?_setIfInBounds_ne (Ne.symm e)]; exact H i hi
theorem own_ab.cong {Z : State} {h : Heap} {a : Addr} {f g : Nat → Int32} (A : own_ab Z h a f) (q : ∀ i, i < 8 → f i = g i) : own_ab Z h a g := by
  obtain ⟨c, A, S, H⟩ := A
  exact ⟨c, A, S, fun i hi => by rw [H i hi, q i hi]⟩
theorem own_w {h h' : Heap} {a : Addr} {j : Nat} {y : Int32} (W : Wr h h' a j (.int (nar .byte y.toInt8.toInt32))) : Wr h h' a j (.int y.toInt8.toInt32) := by
  have e : nar .byte y.toInt8.toInt32 = y.toInt8.toInt32 := by simp [nar]
  rw [e] at W; exact W
/-- the byte that the law expects at the place i -/
def own_b (q : Int64) (i : Int32) : Int32 := ((((q.toUInt64 >>> (((8 : Int32) * i) &&& 0x3f).toInt64.toUInt64).toInt64).toInt32).toInt8.toInt32)
def own_y0 (x : Int32) : Int32 := (((x.toUInt32 >>> ((24 : Int32) &&& 31).toUInt32).toInt32).toInt8.toInt32)
def own_y1 (x : Int32) : Int32 := (((x.toUInt32 >>> ((16 : Int32) &&& 31).toUInt32).toInt32).toInt8.toInt32)
def own_y2 (x : Int32) : Int32 := (((x.toUInt32 >>> ((8 : Int32) &&& 31).toUInt32).toInt32).toInt8.toInt32)
def own_y3 (x : Int32) : Int32 := (x.toInt8.toInt32)
def own_put (f : Nat → Int32) (o : Nat) (x : Int32) : Nat → Int32 := fun i => if i = o + 3 then own_y3 x else if i = o + 2 then own_y2 x else if i = o + 1 then own_y1 x else if i = o then own_y0 x else f i
theorem own_puts (f : Nat → Int32) (x : Int32) {o : Int32} (h1 : 0 ≤ o.toInt) (h2 : o.toInt < 5) : ∀ i, i < 8 → (fun i => if i = (o + (3 : Int32)).toNatClampNeg then own_y3 x else (fun i => if i = (o + (2 : Int32)).toNatClampNeg then own_y2 x else (fun i => if i = (o + (1 : Int32)).toNatClampNeg then own_y1 x else (fun i => if i = o.toNatClampNeg then own_y0 x else f i) i) i) i) i = own_put f o.toNatClampNeg x i := by
  intro i _
  have e1 : (o + (1 : Int32)).toNatClampNeg = o.toNatClampNeg + 1 := own_clamp h1 h2 (by decide) (by decide)
  have e2 : (o + (2 : Int32)).toNatClampNeg = o.toNatClampNeg + 2 := own_clamp h1 h2 (by decide) (by decide)
  have e3 : (o + (3 : Int32)).toNatClampNeg = o.toNatClampNeg + 3 := own_clamp h1 h2 (by decide) (by decide)
  simp only [e1, e2, e3, own_put]
theorem own_got0 (f : Nat → Int32) (x : Int32) {o : Int32} (h1 : 0 ≤ o.toInt) (h2 : o.toInt < 5) : own_put f o.toNatClampNeg x o.toNatClampNeg = own_y0 x := by simp [own_put]
theorem own_got1 (f : Nat → Int32) (x : Int32) {o : Int32} (h1 : 0 ≤ o.toInt) (h2 : o.toInt < 5) : own_put f o.toNatClampNeg x (o + (1 : Int32)).toNatClampNeg = own_y1 x := by
  have e1 : (o + (1 : Int32)).toNatClampNeg = o.toNatClampNeg + 1 := own_clamp h1 h2 (by decide) (by decide)
  rw [e1]; simp [own_put]
theorem own_got2 (f : Nat → Int32) (x : Int32) {o : Int32} (h1 : 0 ≤ o.toInt) (h2 : o.toInt < 5) : own_put f o.toNatClampNeg x (o + (2 : Int32)).toNatClampNeg = own_y2 x := by
  have e1 : (o + (2 : Int32)).toNatClampNeg = o.toNatClampNeg + 2 := own_clamp h1 h2 (by decide) (by decide)
  rw [e1]; simp [own_put]
theorem own_got3 (f : Nat → Int32) (x : Int32) {o : Int32} (h1 : 0 ≤ o.toInt) (h2 : o.toInt < 5) : own_put f o.toNatClampNeg x (o + (3 : Int32)).toNatClampNeg = own_y3 x := by
  have e1 : (o + (3 : Int32)).toNatClampNeg = o.toNatClampNeg + 3 := own_clamp h1 h2 (by decide) (by decide)
  rw [e1]; simp [own_put]
theorem own_kept (q : Int64) (x : Int32) {o k : Int32} (h1 : 0 ≤ o.toInt) (h2 : o.toInt < 5) (k1 : 0 ≤ k.toInt) (k2 : k.toInt < 8) : (k < o ∨ ¬ k < o + 4) → own_put (fun i => own_b q (Nat.toInt32 i)) o.toNatClampNeg x k.toNatClampNeg = own_b q k := by
  intro h
  have e : (o + (4 : Int32)).toInt = o.toInt + 4 := own_off h1 h2 (by decide) (by decide)
  simp only [Int32.lt_iff_toInt_lt, e] at h
  have hk : ¬ k < 0 := by simp only [Int32.lt_iff_toInt_lt, Int32.reduceToInt]; omega
  have b := (back32 hk).1
  have n1 : k.toNatClampNeg ≠ o.toNatClampNeg + 3 := by simp only [Int32.toNatClampNeg]; omega
  have n2 : k.toNatClampNeg ≠ o.toNatClampNeg + 2 := by simp only [Int32.toNatClampNeg]; omega
  have n3 : k.toNatClampNeg ≠ o.toNatClampNeg + 1 := by simp only [Int32.toNatClampNeg]; omega
  have n4 : k.toNatClampNeg ≠ o.toNatClampNeg := by simp only [Int32.toNatClampNeg]; omega
  simp only [own_put, if_neg n1, if_neg n2, if_neg n3, if_neg n4, b]
theorem own_low (y : BitVec 32) : ((y.signExtend 8).signExtend 32) &&& 255#32 = y &&& 255#32 := by
  apply BitVec.eq_of_getElem_eq
  intro i hi
  simp only [BitVec.getElem_and, BitVec.getElem_signExtend]
  by_cases h : i < 8
  · simp [h, hi]
  · have : (255#32)[i] = false := by
      rw [BitVec.getElem_eq_testBit_toNat]
      show Nat.testBit 255 i = false
      exact Nat.testBit_lt_two_pow (Nat.lt_of_lt_of_le (by decide : 255 < 2 ^ 8) (Nat.pow_le_pow_right (by decide) (by omega)))
    simp [this]
theorem own_bits (x : BitVec 32) : ((((x >>> 24 &&& 255#32) <<< 24) ||| ((x >>> 16 &&& 255#32) <<< 16)) ||| ((x >>> 8 &&& 255#32) <<< 8)) ||| (x &&& 255#32) = x := by
  apply BitVec.eq_of_getLsbD_eq
  intro i hi
  have key : ∀ j : Nat, (255#32).getLsbD j = decide (j < 8) := by
    intro j
    show Nat.testBit (2 ^ 8 - 1) j = _
    exact Nat.testBit_two_pow_sub_one 8 j
  simp only [BitVec.getLsbD_or, BitVec.getLsbD_shiftLeft, BitVec.getLsbD_and, BitVec.getLsbD_ushiftRight, key]
  rcases Nat.lt_or_ge i 8 with h1 | h1
  · simp [h1, hi, show i < 16 by omega, show i < 24 by omega]
  · rcases Nat.lt_or_ge i 16 with h2 | h2
    · simp [hi, h2, show ¬ i < 8 by omega, show i < 24 by omega, show i - 8 < 8 by omega, show 8 + (i - 8) = i by omega]
    · rcases Nat.lt_or_ge i 24 with h3 | h3
      · simp [hi, h3, show ¬ i < 8 by omega, show ¬ i < 16 by omega, show ¬ i - 8 < 8 by omega, show i - 16 < 8 by omega, show 16 + (i - 16) = i by omega]
      · simp [hi, show ¬ i < 8 by omega, show ¬ i < 16 by omega, show ¬ i < 24 by omega, show ¬ i - 8 < 8 by omega, show ¬ i - 16 < 8 by omega, show i - 24 < 8 by omega, show 24 + (i - 24) = i by omega]
theorem own_back (x : Int32) : ((((((own_y0 x) &&& (255 : Int32)) <<< ((24 : Int32) &&& 31)) ||| (((own_y1 x) &&& (255 : Int32)) <<< ((16 : Int32) &&& 31))) ||| (((own_y2 x) &&& (255 : Int32)) <<< ((8 : Int32) &&& 31))) ||| ((own_y3 x) &&& (255 : Int32))) = x := by
  apply Int32.toBitVec_inj.mp
  have e0 : (own_y0 x &&& 255).toBitVec = x.toBitVec >>> 24 &&& 255#32 := own_low (x.toBitVec >>> 24)
  have e1 : (own_y1 x &&& 255).toBitVec = x.toBitVec >>> 16 &&& 255#32 := own_low (x.toBitVec >>> 16)
  have e2 : (own_y2 x &&& 255).toBitVec = x.toBitVec >>> 8 &&& 255#32 := own_low (x.toBitVec >>> 8)
  have e3 : (own_y3 x &&& 255).toBitVec = x.toBitVec &&& 255#32 := own_low x.toBitVec
  have s : ∀ (y k : Int32) (n : Nat), (k.toBitVec.smod 32).toNat = n → (y <<< k).toBitVec = y.toBitVec <<< n := fun y k n h => by
    rw [Int32.toBitVec_shiftLeft, BitVec.shiftLeft_eq', h]
  rw [Int32.toBitVec_or, Int32.toBitVec_or, Int32.toBitVec_or, s _ _ 24 (by decide), s _ _ 16 (by decide), s _ _ 8 (by decide), e0, e1, e2, e3]
  exact own_bits x.toBitVec

theorem dPI_0 : decode prog_9_method_40_code 0 = .ok (.aload_n 0, 1) := by decide +kernel
theorem dPI_1 : decode prog_9_method_40_code 1 = .ok (.iload_n 1, 1) := by decide +kernel
theorem dPI_2 : decode prog_9_method_40_code 2 = .ok (.iload_n 2, 1) := by decide +kernel
theorem dPI_3 : decode prog_9_method_40_code 3 = .ok (.bipush 24, 2) := by decide +kernel
theorem dPI_5 : decode prog_9_method_40_code 5 = .ok (.iushr, 1) := by decide +kernel
theorem dPI_6 : decode prog_9_method_40_code 6 = .ok (.i2b, 1) := by decide +kernel
theorem dPI_7 : decode prog_9_method_40_code 7 = .ok (.bastore, 1) := by decide +kernel
theorem dPI_8 : decode prog_9_method_40_code 8 = .ok (.aload_n 0, 1) := by decide +kernel
theorem dPI_9 : decode prog_9_method_40_code 9 = .ok (.iload_n 1, 1) := by decide +kernel
theorem dPI_10 : decode prog_9_method_40_code 10 = .ok (.iconst 1, 1) := by decide +kernel
theorem dPI_11 : decode prog_9_method_40_code 11 = .ok (.iadd, 1) := by decide +kernel
theorem dPI_12 : decode prog_9_method_40_code 12 = .ok (.iload_n 2, 1) := by decide +kernel
theorem dPI_13 : decode prog_9_method_40_code 13 = .ok (.bipush 16, 2) := by decide +kernel
theorem dPI_15 : decode prog_9_method_40_code 15 = .ok (.iushr, 1) := by decide +kernel
theorem dPI_16 : decode prog_9_method_40_code 16 = .ok (.i2b, 1) := by decide +kernel
theorem dPI_17 : decode prog_9_method_40_code 17 = .ok (.bastore, 1) := by decide +kernel
theorem dPI_18 : decode prog_9_method_40_code 18 = .ok (.aload_n 0, 1) := by decide +kernel
theorem dPI_19 : decode prog_9_method_40_code 19 = .ok (.iload_n 1, 1) := by decide +kernel
theorem dPI_20 : decode prog_9_method_40_code 20 = .ok (.iconst 2, 1) := by decide +kernel
theorem dPI_21 : decode prog_9_method_40_code 21 = .ok (.iadd, 1) := by decide +kernel
theorem dPI_22 : decode prog_9_method_40_code 22 = .ok (.iload_n 2, 1) := by decide +kernel
theorem dPI_23 : decode prog_9_method_40_code 23 = .ok (.bipush 8, 2) := by decide +kernel
theorem dPI_25 : decode prog_9_method_40_code 25 = .ok (.iushr, 1) := by decide +kernel
theorem dPI_26 : decode prog_9_method_40_code 26 = .ok (.i2b, 1) := by decide +kernel
theorem dPI_27 : decode prog_9_method_40_code 27 = .ok (.bastore, 1) := by decide +kernel
theorem dPI_28 : decode prog_9_method_40_code 28 = .ok (.aload_n 0, 1) := by decide +kernel
theorem dPI_29 : decode prog_9_method_40_code 29 = .ok (.iload_n 1, 1) := by decide +kernel
theorem dPI_30 : decode prog_9_method_40_code 30 = .ok (.iconst 3, 1) := by decide +kernel
theorem dPI_31 : decode prog_9_method_40_code 31 = .ok (.iadd, 1) := by decide +kernel
theorem dPI_32 : decode prog_9_method_40_code 32 = .ok (.iload_n 2, 1) := by decide +kernel
theorem dPI_33 : decode prog_9_method_40_code 33 = .ok (.i2b, 1) := by decide +kernel
theorem dPI_34 : decode prog_9_method_40_code 34 = .ok (.bastore, 1) := by decide +kernel
theorem dPI_35 : decode prog_9_method_40_code 35 = .ok (.return_, 1) := by decide +kernel
theorem pn_PI : plainName "com/example/halyard/halyard/BinaryEncoder" = true := by first | (simp [plainName, overriddenIn]; done) | decide +kernel
theorem ef_PI (m : MethodId) (o0 : Addr) (p1 : Int32) (p2 : Int32) : entryFrame m #[(.ref o0), (.int p1), (.int p2)] 3 = mkF m 0 #[.val (.ref o0), .val (.int p1), .val (.int p2)] [] := by first | (simp [entryFrame, mkF, argsToLocals, Value.category]; done) | rfl
def QPI (Z : State) (o0 : Addr) (p1 : Int32) (p2 : Int32) (f : Nat → Int32) (h0 : Heap) (n0 : Nat) (v : Option Value) (h : Heap) (L : List Loc) : Prop := v = none ∧ Fr n0 L ∧ Keep h0 h [o0] ∧ own_ab Z h o0 (own_put f p1.toNatClampNeg p2)
set_option maxRecDepth 65536 in
set_option maxHeartbeats 40000000 in
theorem rmPI (l : Launch) (Z : State) (a0 : Array Value) (hw : ∀ d ∈ tables_1, d.before a0 Z = true) (ws : List Jvm.Cond) (o0 : Addr) (p1 : Int32) (p2 : Int32) (f : Nat → Int32) (h0 : Heap) (n0 : Nat) (Z0 : n0 ≤ h0.size) (V0 : own_ab Z h0 o0 f) (g_o0 : n0 ≤ o0) (ho1 : 0 ≤ p1.toInt) (ho2 : p1.toInt < 5) :
    MetFree l (⟨"com/example/halyard/halyard/BinaryEncoder", "putInt32", "([BII)V"⟩ : MethodName) (head1 (Jvm.Cond.code (⟨"com/example/halyard/halyard/BinaryEncoder", "putInt32", "([BII)V"⟩ : MethodName) prog_9_method_40_code 3 none :: ws) ({ frames := 0, cells := 0, slots := 0, locals := 0 } : Room)) (fun a U => a = #[(.ref o0), (.int p1), (.int p2)] ∧ Z.Warmed39 U.vm ∧ U.heap = h0) (fun _ _ _ _ _ => True) (fun _ U o U' => ∃ v L, o = .returned v ∧ QPI Z o0 p1 p2 f h0 n0 v U'.heap L ∧ FrameEnd U o U' L ({ frames := 0, cells := 0, slots := 0, locals := 0 } : Room).cells ({ frames := 0, cells := 0, slots := 0, locals := 0 } : Room).slots) := by
  refine MetFree.of_bodySF (plainFor_of_name pn_PI) hisR ?_
  intro p e s m args below meth c s₁ Bd hml0 hP hK
  obtain ⟨rfl, hZ, hh⟩ := hP
  have hx := Bd.exec
  have hby := Bd.bytes
  have hml : c.maxLocals = 3 := hml0
  have hown : s.vm.findClass "com/example/halyard/halyard/BinaryEncoder" = some m.cls := findClass_of_methodNamed Bd.named
  have hnm := (name_of_methodNamed Bd.named Bd.method).1
  have X0 : Stand p l e ({ frames := 0, cells := 0, slots := 0, locals := 0 } : Room) s m #[(.ref o0), (.int p1), (.int p2)] below meth c s₁ [] 0 0 := Stand.of_body Bd
  have e0 : s₁.heap = h0 := by rw [← hh, Bd.state]; rfl
  have N0 := Fr.nil n0
  show Goes p e below (fun o U' => ∃ v L, o = .returned v ∧ QPI Z o0 p1 p2 f h0 n0 v U'.heap L ∧ FrameEnd s o U' L ({ frames := 0, cells := 0, slots := 0, locals := 0 } : Room).cells ({ frames := 0, cells := 0, slots := 0, locals := 0 } : Room).slots) _
  refine Goes.go (fun t k => castTop (ef_PI m o0 p1 p2) k) ?_
  show Goes p e below _ (s₁.setTop (mkF m 0 #[.val (.ref o0), .val (.int p1), .val (.int p2)] []))
  refine Goes.go (fun t => XS.aloadN X0.here hx rfl (hb hby dPI_0) rfl rfl ) ?_
  show Goes p e below _ (s₁.setTop (mkF m 1 #[.val (.ref o0), .val (.int p1), .val (.int p2)] [(.ref o0)]))
  refine Goes.go (fun t => XS.iloadN X0.here hx rfl (hb hby dPI_1) rfl ) ?_
  show Goes p e below _ (s₁.setTop (mkF m 2 #[.val (.ref o0), .val (.int p1), .val (.int p2)] [(.int p1), (.ref o0)]))
  refine Goes.go (fun t => XS.iloadN X0.here hx rfl (hb hby dPI_2) rfl ) ?_
  show Goes p e below _ (s₁.setTop (mkF m 3 #[.val (.ref o0), .val (.int p1), .val (.int p2)] [(.int p2), (.int p1), (.ref o0)]))
  refine Goes.go (fun t => XS.bipush X0.here hx rfl (hb hby dPI_3)) ?_
  show Goes p e below _ (s₁.setTop (mkF m 5 #[.val (.ref o0), .val (.int p1), .val (.int p2)] [(.int (24 : Int32)), (.int p2), (.int p1), (.ref o0)]))
  refine Goes.go (fun t => XS.iushr X0.here hx rfl (hb hby dPI_5) rfl) ?_
  show Goes p e below _ (s₁.setTop (mkF m 6 #[.val (.ref o0), .val (.int p1), .val (.int p2)] [(.int ((p2.toUInt32 >>> ((24 : Int32) &&& 31).toUInt32).toInt32)), (.int p1), (.ref o0)]))
  refine Goes.go (fun t => XS.i2b X0.here hx rfl (hb hby dPI_6) rfl) ?_
  show Goes p e below _ (s₁.setTop (mkF m 7 #[.val (.ref o0), .val (.int p1), .val (.int p2)] [(.int (((p2.toUInt32 >>> ((24 : Int32) &&& 31).toUInt32).toInt32).toInt8.toInt32)), (.int p1), (.ref o0)]))
  obtain ⟨c1, Ar1, S1, H1⟩ := id V0
  obtain ⟨T1, h1, X1, e1, V1w, st1⟩ := stB X0 hx hZ e0 Ar1 (j := p1) (by rw [S1]; exact (own_in8 ho1 ho2)) (g := (mkF m 7 #[.val (.ref o0), .val (.int p1), .val (.int p2)] [(.int (((p2.toUInt32 >>> ((24 : Int32) &&& 31).toUInt32).toInt32).toInt8.toInt32)), (.int p1), (.ref o0)])) rfl rfl (hb hby dPI_7)
  have W1 : Wr h0 h1 o0 p1.toNatClampNeg (.int (((p2.toUInt32 >>> ((24 : Int32) &&& 31).toUInt32).toInt32).toInt8.toInt32)) := own_w V1w
  have V1 := own_ab.wr V0 W1
  have Z1 : n0 ≤ h1.size := Nat.le_trans Z0 (Nat.le_of_eq W1.size.symm)
  have Kz1 : Keep h0 h1 [o0] := (Keep.refl h0 [o0]).wr W1 (Or.inl (List.mem_of_getElem? (i := 0) rfl))
  have N1 := Fr.snoc X1 N0 g_o0
  refine Goes.go st1 ?_
  obtain ⟨LL2, XL2, NL2⟩ : ∃ LL : List Loc, Stand p l e ({ frames := 0, cells := 0, slots := 0, locals := 0 } : Room) s m #[(.ref o0), (.int p1), (.int p2)] below meth c T1 LL 0 0 ∧ Fr n0 LL := ⟨_, X1, N1⟩
  show Goes p e below _ (T1.setTop (mkF m 8 #[.val (.ref o0), .val (.int p1), .val (.int p2)] []))
  refine Goes.go (fun t => XS.aloadN XL2.here hx rfl (hb hby dPI_8) rfl rfl ) ?_
  show Goes p e below _ (T1.setTop (mkF m 9 #[.val (.ref o0), .val (.int p1), .val (.int p2)] [(.ref o0)]))
  refine Goes.go (fun t => XS.iloadN XL2.here hx rfl (hb hby dPI_9) rfl ) ?_
  show Goes p e below _ (T1.setTop (mkF m 10 #[.val (.ref o0), .val (.int p1), .val (.int p2)] [(.int p1), (.ref o0)]))
  refine Goes.go (fun t => XS.iconst XL2.here hx rfl (hb hby dPI_10)) ?_
  show Goes p e below _ (T1.setTop (mkF m 11 #[.val (.ref o0), .val (.int p1), .val (.int p2)] [(.int (1 : Int32)), (.int p1), (.ref o0)]))
  refine Goes.go (fun t => XS.iadd XL2.here hx rfl (hb hby dPI_11) rfl) ?_
  show Goes p e below _ (T1.setTop (mkF m 12 #[.val (.ref o0), .val (.int p1), .val (.int p2)] [(.int (p1 + (1 : Int32))), (.ref o0)]))
  refine Goes.go (fun t => XS.iloadN XL2.here hx rfl (hb hby dPI_12) rfl ) ?_
  show Goes p e below _ (T1.setTop (mkF m 13 #[.val (.ref o0), .val (.int p1), .val (.int p2)] [(.int p2), (.int (p1 + (1 : Int32))), (.ref o0)]))
  refine Goes.go (fun t => XS.bipush XL2.here hx rfl (hb hby dPI_13)) ?_
  show Goes p e below _ (T1.setTop (mkF m 15 #[.val (.ref o0), .val (.int p1), .val (.int p2)] [(.int (16 : Int32)), (.int p2), (.int (p1 + (1 : Int32))), (.ref o0)]))
  refine Goes.go (fun t => XS.iushr XL2.here hx rfl (hb hby dPI_15) rfl) ?_
  show Goes p e below _ (T1.setTop (mkF m 16 #[.val (.ref o0), .val (.int p1), .val (.int p2)] [(.int ((p2.toUInt32 >>> ((16 : Int32) &&& 31).toUInt32).toInt32)), (.int (p1 + (1 : Int32))), (.ref o0)]))
  refine Goes.go (fun t => XS.i2b XL2.here hx rfl (hb hby dPI_16) rfl) ?_
  show Goes p e below _ (T1.setTop (mkF m 17 #[.val (.ref o0), .val (.int p1), .val (.int p2)] [(.int (((p2.toUInt32 >>> ((16 : Int32) &&& 31).toUInt32).toInt32).toInt8.toInt32)), (.int (p1 + (1 : Int32))), (.ref o0)]))
  obtain ⟨c3, Ar3, S3, H3⟩ := id V1
  obtain ⟨T3, h3, X3, e3, V3w, st3⟩ := stB XL2 hx hZ e1 Ar3 (j := (p1 + (1 : Int32))) (by rw [S3]; exact (own_inK ho1 ho2 (by decide) (by decide))) (g := (mkF m 17 #[.val (.ref o0), .val (.int p1), .val (.int p2)] [(.int (((p2.toUInt32 >>> ((16 : Int32) &&& 31).toUInt32).toInt32).toInt8.toInt32)), (.int (p1 + (1 : Int32))), (.ref o0)])) rfl rfl (hb hby dPI_17)
  have W3 : Wr h1 h3 o0 (p1 + (1 : Int32)).toNatClampNeg (.int (((p2.toUInt32 >>> ((16 : Int32) &&& 31).toUInt32).toInt32).toInt8.toInt32)) := own_w V3w
  have V3 := own_ab.wr V1 W3
  have Z3 : n0 ≤ h3.size := Nat.le_trans Z1 (Nat.le_of_eq W3.size.symm)
  have Kz3 : Keep h0 h3 [o0] := Kz1.wr W3 (Or.inl (List.mem_of_getElem? (i := 0) rfl))
  have N3 := Fr.snoc X3 NL2 g_o0
  refine Goes.go st3 ?_
  obtain ⟨LL4, XL4, NL4⟩ : ∃ LL : List Loc, Stand p l e ({ frames := 0, cells := 0, slots := 0, locals := 0 } : Room) s m #[(.ref o0), (.int p1), (.int p2)] below meth c T3 LL 0 0 ∧ Fr n0 LL := ⟨_, X3, N3⟩
  show Goes p e below _ (T3.setTop (mkF m 18 #[.val (.ref o0), .val (.int p1), .val (.int p2)] []))
  refine Goes.go (fun t => XS.aloadN XL4.here hx rfl (hb hby dPI_18) rfl rfl ) ?_
  show Goes p e below _ (T3.setTop (mkF m 19 #[.val (.ref o0), .val (.int p1), .val (.int p2)] [(.ref o0)]))
  refine Goes.go (fun t => XS.iloadN XL4.here hx rfl (hb hby dPI_19) rfl ) ?_
  show Goes p e below _ (T3.setTop (mkF m 20 #[.val (.ref o0), .val (.int p1), .val (.int p2)] [(.int p1), (.ref o0)]))
  refine Goes.go (fun t => XS.iconst XL4.here hx rfl (hb hby dPI_20)) ?_
  show Goes p e below _ (T3.setTop (mkF m 21 #[.val (.ref o0), .val (.int p1), .val (.int p2)] [(.int (2 : Int32)), (.int p1), (.ref o0)]))
  refine Goes.go (fun t => XS.iadd XL4.here hx rfl (hb hby dPI_21) rfl) ?_
  show Goes p e below _ (T3.setTop (mkF m 22 #[.val (.ref o0), .val (.int p1), .val (.int p2)] [(.int (p1 + (2 : Int32))), (.ref o0)]))
  refine Goes.go (fun t => XS.iloadN XL4.here hx rfl (hb hby dPI_22) rfl ) ?_
  show Goes p e below _ (T3.setTop (mkF m 23 #[.val (.ref o0), .val (.int p1), .val (.int p2)] [(.int p2), (.int (p1 + (2 : Int32))), (.ref o0)]))
  refine Goes.go (fun t => XS.bipush XL4.here hx rfl (hb hby dPI_23)) ?_
  show Goes p e below _ (T3.setTop (mkF m 25 #[.val (.ref o0), .val (.int p1), .val (.int p2)] [(.int (8 : Int32)), (.int p2), (.int (p1 + (2 : Int32))), (.ref o0)]))
  refine Goes.go (fun t => XS.iushr XL4.here hx rfl (hb hby dPI_25) rfl) ?_
  show Goes p e below _ (T3.setTop (mkF m 26 #[.val (.ref o0), .val (.int p1), .val (.int p2)] [(.int ((p2.toUInt32 >>> ((8 : Int32) &&& 31).toUInt32).toInt32)), (.int (p1 + (2 : Int32))), (.ref o0)]))
  refine Goes.go (fun t => XS.i2b XL4.here hx rfl (hb hby dPI_26) rfl) ?_
  show Goes p e below _ (T3.setTop (mkF m 27 #[.val (.ref o0), .val (.int p1), .val (.int p2)] [(.int (((p2.toUInt32 >>> ((8 : Int32) &&& 31).toUInt32).toInt32).toInt8.toInt32)), (.int (p1 + (2 : Int32))), (.ref o0)]))
  obtain ⟨c5, Ar5, S5, H5⟩ := id V3
  obtain ⟨T5, h5, X5, e5, V5w, st5⟩ := stB XL4 hx hZ e3 Ar5 (j := (p1 + (2 : Int32))) (by rw [S5]; exact (own_inK ho1 ho2 (by decide) (by decide))) (g := (mkF m 27 #[.val (.ref o0), .val (.int p1), .val (.int p2)] [(.int (((p2.toUInt32 >>> ((8 : Int32) &&& 31).toUInt32).toInt32).toInt8.toInt32)), (.int (p1 + (2 : Int32))), (.ref o0)])) rfl rfl (hb hby dPI_27)
  have W5 : Wr h3 h5 o0 (p1 + (2 : Int32)).toNatClampNeg (.int (((p2.toUInt32 >>> ((8 : Int32) &&& 31).toUInt32).toInt32).toInt8.toInt32)) := own_w V5w
  have V5 := own_ab.wr V3 W5
  have Z5 : n0 ≤ h5.size := Nat.le_trans Z3 (Nat.le_of_eq W5.size.symm)
  have Kz5 : Keep h0 h5 [o0] := Kz3.wr W5 (Or.inl (List.mem_of_getElem? (i := 0) rfl))
  have N5 := Fr.snoc X5 NL4 g_o0
  refine Goes.go st5 ?_
  obtain ⟨LL6, XL6, NL6⟩ : ∃ LL : List Loc, Stand p l e ({ frames := 0, cells := 0, slots := 0, locals := 0 } : Room) s m #[(.ref o0), (.int p1), (.int p2)] below meth c T5 LL 0 0 ∧ Fr n0 LL := ⟨_, X5, N5⟩
  show Goes p e below _ (T5.setTop (mkF m 28 #[.val (.ref o0), .val (.int p1), .val (.int p2)] []))
  refine Goes.go (fun t => XS.aloadN XL6.here hx rfl (hb hby dPI_28) rfl rfl ) ?_
  show Goes p e below _ (T5.setTop (mkF m 29 #[.val (.ref o0), .val (.int p1), .val (.int p2)] [(.ref o0)]))
  refine Goes.go (fun t => XS.iloadN XL6.here hx rfl (hb hby dPI_29) rfl ) ?_
  show Goes p e below _ (T5.setTop (mkF m 30 #[.val (.ref o0), .val (.int p1), .val (.int p2)] [(.int p1), (.ref o0)]))
  refine Goes.go (fun t => XS.iconst XL6.here hx rfl (hb hby dPI_30)) ?_
  show Goes p e below _ (T5.setTop (mkF m 31 #[.val (.ref o0), .val (.int p1), .val (.int p2)] [(.int (3 : Int32)), (.int p1), (.ref o0)]))
  refine Goes.go (fun t => XS.iadd XL6.here hx rfl (hb hby dPI_31) rfl) ?_
  show Goes p e below _ (T5.setTop (mkF m 32 #[.val (.ref o0), .val (.int p1), .val (.int p2)] [(.int (p1 + (3 : Int32))), (.ref o0)]))
  refine Goes.go (fun t => XS.iloadN XL6.here hx rfl (hb hby dPI_32) rfl ) ?_
  show Goes p e below _ (T5.setTop (mkF m 33 #[.val (.ref o0), .val (.int p1), .val (.int p2)] [(.int p2), (.int (p1 + (3 : Int32))), (.ref o0)]))
  refine Goes.go (fun t => XS.i2b XL6.here hx rfl (hb hby dPI_33) rfl) ?_
  show Goes p e below _ (T5.setTop (mkF m 34 #[.val (.ref o0), .val (.int p1), .val (.int p2)] [(.int (p2.toInt8.toInt32)), (.int (p1 + (3 : Int32))), (.ref o0)]))
  obtain ⟨c7, Ar7, S7, H7⟩ := id V5
  obtain ⟨T7, h7, X7, e7, V7w, st7⟩ := stB XL6 hx hZ e5 Ar7 (j := (p1 + (3 : Int32))) (by rw [S7]; exact (own_inK ho1 ho2 (by decide) (by decide))) (g := (mkF m 34 #[.val (.ref o0), .val (.int p1), .val (.int p2)] [(.int (p2.toInt8.toInt32)), (.int (p1 + (3 : Int32))), (.ref o0)])) rfl rfl (hb hby dPI_34)
  have W7 : Wr h5 h7 o0 (p1 + (3 : Int32)).toNatClampNeg (.int (p2.toInt8.toInt32)) := own_w V7w
  have V7 := own_ab.wr V5 W7
  have Z7 : n0 ≤ h7.size := Nat.le_trans Z5 (Nat.le_of_eq W7.size.symm)
  have Kz7 : Keep h0 h7 [o0] := Kz5.wr W7 (Or.inl (List.mem_of_getElem? (i := 0) rfl))
  have N7 := Fr.snoc X7 NL6 g_o0
  refine Goes.go st7 ?_
  obtain ⟨LL8, XL8, NL8⟩ : ∃ LL : List Loc, Stand p l e ({ frames := 0, cells := 0, slots := 0, locals := 0 } : Room) s m #[(.ref o0), (.int p1), (.int p2)] below meth c T7 LL 0 0 ∧ Fr n0 LL := ⟨_, X7, N7⟩
  show Goes p e below _ (T7.setTop (mkF m 35 #[.val (.ref o0), .val (.int p1), .val (.int p2)] []))
  exact Goes.out XL8 (fun _ => rfl) Bd.notSynchronized (fun fs hr => XL8.returnOut hx Bd.returns (hb hby dPI_35) hr) (by rw [e7]; exact ⟨rfl, NL8, Kz7, V7.cong (own_puts f p2 ho1 ho2)⟩) (by decide) (by decide)
theorem dUN_0 : decode method_3_code 0 = .ok (.iload_n 1, 1) := by decide +kernel
theorem dUN_1 : decode method_3_code 1 = .ok (.iload_n 2, 1) := by decide +kernel
theorem dUN_2 : decode method_3_code 2 = .ok (.if_icmp .lt 12, 3) := by decide +kernel
theorem dUN_5 : decode method_3_code 5 = .ok (.iload_n 1, 1) := by decide +kernel
theorem dUN_6 : decode method_3_code 6 = .ok (.iload_n 2, 1) := by decide +kernel
theorem dUN_7 : decode method_3_code 7 = .ok (.iconst 4, 1) := by decide +kernel
theorem dUN_8 : decode method_3_code 8 = .ok (.iadd, 1) := by decide +kernel
theorem dUN_9 : decode method_3_code 9 = .ok (.if_icmp .ge 5, 3) := by decide +kernel
theorem dUN_12 : decode method_3_code 12 = .ok (.iconst 1, 1) := by decide +kernel
theorem dUN_13 : decode method_3_code 13 = .ok (.ireturn, 1) := by decide +kernel
theorem dUN_14 : decode method_3_code 14 = .ok (.aload_n 0, 1) := by decide +kernel
theorem dUN_15 : decode method_3_code 15 = .ok (.iload_n 1, 1) := by decide +kernel
theorem dUN_16 : decode method_3_code 16 = .ok (.baload, 1) := by decide +kernel
theorem dUN_17 : decode method_3_code 17 = .ok (.lload_n 3, 1) := by decide +kernel
theorem dUN_18 : decode method_3_code 18 = .ok (.bipush 8, 2) := by decide +kernel
theorem dUN_20 : decode method_3_code 20 = .ok (.iload_n 1, 1) := by decide +kernel
theorem dUN_21 : decode method_3_code 21 = .ok (.imul, 1) := by decide +kernel
theorem dUN_22 : decode method_3_code 22 = .ok (.lushr, 1) := by decide +kernel
theorem dUN_23 : decode method_3_code 23 = .ok (.l2i, 1) := by decide +kernel
theorem dUN_24 : decode method_3_code 24 = .ok (.i2b, 1) := by decide +kernel
theorem dUN_25 : decode method_3_code 25 = .ok (.if_icmp .ne 7, 3) := by decide +kernel
theorem dUN_28 : decode method_3_code 28 = .ok (.iconst 1, 1) := by decide +kernel
theorem dUN_29 : decode method_3_code 29 = .ok (.goto 4, 3) := by decide +kernel
theorem dUN_33 : decode method_3_code 33 = .ok (.ireturn, 1) := by decide +kernel
theorem pn_UN : plainName "com/example/halyard/halyard/BinaryEncoderPutInt32PinLaw" = true := by first | (simp [plainName, overriddenIn]; done) | decide +kernel
theorem ef_UN (m : MethodId) (o0 : Addr) (p1 : Int32) (p2 : Int32) (q3 : Int64) : entryFrame m #[(.ref o0), (.int p1), (.int p2), (.long q3)] 5 = mkF m 0 #[.val (.ref o0), .val (.int p1), .val (.int p2), .val (.long q3), .second] [] := by first | (simp [entryFrame, mkF, argsToLocals, Value.category]; done) | rfl
def QUN (Z : State) (o0 : Addr) (p1 : Int32) (p2 : Int32) (q3 : Int64) (f : Nat → Int32) (h0 : Heap) (n0 : Nat) (v : Option Value) (h : Heap) (L : List Loc) : Prop := v = some (.int 1) ∧ Fr n0 L ∧ h = h0
set_option maxRecDepth 65536 in
set_option maxHeartbeats 40000000 in
theorem rmUN (l : Launch) (Z : State) (a0 : Array Value) (hw : ∀ d ∈ tables_1, d.before a0 Z = true) (ws : List Jvm.Cond) (o0 : Addr) (p1 : Int32) (p2 : Int32) (q3 : Int64) (f : Nat → Int32) (h0 : Heap) (n0 : Nat) (Z0 : n0 ≤ h0.size) (V0 : own_ab Z h0 o0 f) (hi1 : 0 ≤ p1.toInt) (hi2 : p1.toInt < 8) (hf : (p1 < p2 ∨ ¬ p1 < p2 + 4) → f p1.toNatClampNeg = own_b q3 p1) :
    MetFree l (⟨"com/example/halyard/halyard/BinaryEncoderPutInt32PinLaw", "untouched", "([BIIJ)Z"⟩ : MethodName) (head1 (Jvm.Cond.code (⟨"com/example/halyard/halyard/BinaryEncoderPutInt32PinLaw", "untouched", "([BIIJ)Z"⟩ : MethodName) method_3_code 5 (some .boolean) :: ws) ({ frames := 0, cells := 0, slots := 0, locals := 0 } : Room)) (fun a U => a = #[(.ref o0), (.int p1), (.int p2), (.long q3)] ∧ Z.Warmed39 U.vm ∧ U.heap = h0) (fun _ _ _ _ _ => True) (fun _ U o U' => ∃ v L, o = .returned v ∧ QUN Z o0 p1 p2 q3 f h0 n0 v U'.heap L ∧ FrameEnd U o U' L ({ frames := 0, cells := 0, slots := 0, locals := 0 } : Room).cells ({ frames := 0, cells := 0, slots := 0, locals := 0 } : Room).slots) := by
  refine MetFree.of_bodySF (plainFor_of_name pn_UN) hisR ?_
  intro p e s m args below meth c s₁ Bd hml0 hP hK
  obtain ⟨rfl, hZ, hh⟩ := hP
  have hx := Bd.exec
  have hby := Bd.bytes
  have hml : c.maxLocals = 5 := hml0
  have hown : s.vm.findClass "com/example/halyard/halyard/BinaryEncoderPutInt32PinLaw" = some m.cls := findClass_of_methodNamed Bd.named
  have hnm := (name_of_methodNamed Bd.named Bd.method).1
  have X0 : Stand p l e ({ frames := 0, cells := 0, slots := 0, locals := 0 } : Room) s m #[(.ref o0), (.int p1), (.int p2), (.long q3)] below meth c s₁ [] 0 0 := Stand.of_body Bd
  have e0 : s₁.heap = h0 := by rw [← hh, Bd.state]; rfl
  have N0 := Fr.nil n0
  show Goes p e below (fun o U' => ∃ v L, o = .returned v ∧ QUN Z o0 p1 p2 q3 f h0 n0 v U'.heap L ∧ FrameEnd s o U' L ({ frames := 0, cells := 0, slots := 0, locals := 0 } : Room).cells ({ frames := 0, cells := 0, slots := 0, locals := 0 } : Room).slots) _
  refine Goes.go (fun t k => castTop (ef_UN m o0 p1 p2 q3) k) ?_
  show Goes p e below _ (s₁.setTop (mkF m 0 #[.val (.ref o0), .val (.int p1), .val (.int p2), .val (.long q3), .second] []))
  refine Goes.go (fun t => XS.iloadN X0.here hx rfl (hb hby dUN_0) rfl ) ?_
  show Goes p e below _ (s₁.setTop (mkF m 1 #[.val (.ref o0), .val (.int p1), .val (.int p2), .val (.long q3), .second] [(.int p1)]))
  refine Goes.go (fun t => XS.iloadN X0.here hx rfl (hb hby dUN_1) rfl ) ?_
  show Goes p e below _ (s₁.setTop (mkF m 2 #[.val (.ref o0), .val (.int p1), .val (.int p2), .val (.long q3), .second] [(.int p2), (.int p1)]))
  by_cases hc2 : p1 < p2
  · refine Goes.go (fun t => XS.icmpYes X0.here hx rfl (pc0 := 2) (pc' := 14) rfl (hb hby dUN_2) rfl (Jvm.Free.XT.ii_lt_t hc2) (by decide) (by decide)) ?_
    show Goes p e below _ (s₁.setTop (mkF m 14 #[.val (.ref o0), .val (.int p1), .val (.int p2), .val (.long q3), .second] []))
    refine Goes.go (fun t => XS.aloadN X0.here hx rfl (hb hby dUN_14) rfl rfl ) ?_
    show Goes p e below _ (s₁.setTop (mkF m 15 #[.val (.ref o0), .val (.int p1), .val (.int p2), .val (.long q3), .second] [(.ref o0)]))
    refine Goes.go (fun t => XS.iloadN X0.here hx rfl (hb hby dUN_15) rfl ) ?_
    show Goes p e below _ (s₁.setTop (mkF m 16 #[.val (.ref o0), .val (.int p1), .val (.int p2), .val (.long q3), .second] [(.int p1), (.ref o0)]))
    obtain ⟨c1, Ar1, S1, H1⟩ := id V0
    have hin1 : ¬ (p1 < 0 ∨ c1.slots.size ≤ p1.toNatClampNeg) := by rw [S1]; exact own_in hi1 hi2
    have hat1 := H1 p1.toNatClampNeg (by rw [← S1]; exact Nat.lt_of_not_le fun q => hin1 (Or.inr q))
    refine Goes.go (X0.baloadBytes hx (j := p1) (v := .int (f p1.toNatClampNeg)) (by rw [e0]; exact Ar1.1) (State.isArrayOf_alike hZ.alike Ar1.2.1) Ar1.2.2 hin1 hat1 (g := (mkF m 16 #[.val (.ref o0), .val (.int p1), .val (.int p2), .val (.long q3), .second] [(.int p1), (.ref o0)])) rfl rfl (hb hby dUN_16)) ?_
    show Goes p e below _ (s₁.setTop (mkF m 17 #[.val (.ref o0), .val (.int p1), .val (.int p2), .val (.long q3), .second] [(.int (f p1.toNatClampNeg))]))
    refine Goes.go (fun t => XS.lloadN X0.here hx rfl (hb hby dUN_17) rfl ) ?_
    show Goes p e below _ (s₁.setTop (mkF m 18 #[.val (.ref o0), .val (.int p1), .val (.int p2), .val (.long q3), .second] [(.long q3), (.int (f p1.toNatClampNeg))]))
    refine Goes.go (fun t => XS.bipush X0.here hx rfl (hb hby dUN_18)) ?_
    show Goes p e below _ (s₁.setTop (mkF m 20 #[.val (.ref o0), .val (.int p1), .val (.int p2), .val (.long q3), .second] [(.int (8 : Int32)), (.long q3), (.int (f p1.toNatClampNeg))]))
    refine Goes.go (fun t => XS.iloadN X0.here hx rfl (hb hby dUN_20) rfl ) ?_
    show Goes p e below _ (s₁.setTop (mkF m 21 #[.val (.ref o0), .val (.int p1), .val (.int p2), .val (.long q3), .second] [(.int p1), (.int (8 : Int32)), (.long q3), (.int (f p1.toNatClampNeg))]))
    refine Goes.go (fun t => XS.imul X0.here hx rfl (hb hby dUN_21) rfl) ?_
    show Goes p e below _ (s₁.setTop (mkF m 22 #[.val (.ref o0), .val (.int p1), .val (.int p2), .val (.long q3), .second] [(.int ((8 : Int32) * p1)), (.long q3), (.int (f p1.toNatClampNeg))]))
    refine Goes.go (fun t => XS.lushr X0.here hx rfl (hb hby dUN_22) rfl) ?_
    show Goes p e below _ (s₁.setTop (mkF m 23 #[.val (.ref o0), .val (.int p1), .val (.int p2), .val (.long q3), .second] [(.long ((q3.toUInt64 >>> (((8 : Int32) * p1) &&& 0x3f).toInt64.toUInt64).toInt64)), (.int (f p1.toNatClampNeg))]))
    refine Goes.go (fun t => XS.l2i X0.here hx rfl (hb hby dUN_23) rfl) ?_
    show Goes p e below _ (s₁.setTop (mkF m 24 #[.val (.ref o0), .val (.int p1), .val (.int p2), .val (.long q3), .second] [(.int (((q3.toUInt64 >>> (((8 : Int32) * p1) &&& 0x3f).toInt64.toUInt64).toInt64).toInt32)), (.int (f p1.toNatClampNeg))]))
    refine Goes.go (fun t => XS.i2b X0.here hx rfl (hb hby dUN_24) rfl) ?_
    show Goes p e below _ (s₁.setTop (mkF m 25 #[.val (.ref o0), .val (.int p1), .val (.int p2), .val (.long q3), .second] [(.int ((((q3.toUInt64 >>> (((8 : Int32) * p1) &&& 0x3f).toInt64.toUInt64).toInt64).toInt32).toInt8.toInt32)), (.int (f p1.toNatClampNeg))]))
    refine Goes.go (fun t => XS.icmpNo X0.here hx rfl (hb hby dUN_25) rfl (Jvm.Free.XT.ii_ne_f (hf (Or.inl hc2)))) ?_
    show Goes p e below _ (s₁.setTop (mkF m 28 #[.val (.ref o0), .val (.int p1), .val (.int p2), .val (.long q3), .second] []))
    refine Goes.go (fun t => XS.iconst X0.here hx rfl (hb hby dUN_28)) ?_
    show Goes p e below _ (s₁.setTop (mkF m 29 #[.val (.ref o0), .val (.int p1), .val (.int p2), .val (.long q3), .second] [(.int (1 : Int32))]))
    refine Goes.go (fun t => XS.goto X0.here hx rfl (pc0 := 29) (pc' := 33) rfl (hb hby dUN_29) (by decide) (by decide)) ?_
    show Goes p e below _ (s₁.setTop (mkF m 33 #[.val (.ref o0), .val (.int p1), .val (.int p2), .val (.long q3), .second] [(.int (1 : Int32))]))
    exact Goes.out X0 (fun h => by rw [Bd.returns] at h; cases h) Bd.notSynchronized (fun fs hr => retN X0 hx (t := .boolean) Bd.returns (by simp) (hb hby dUN_33) hr) ⟨rfl, N0, e0⟩ (by decide) (by decide)
  · refine Goes.go (fun t => XS.icmpNo X0.here hx rfl (hb hby dUN_2) rfl (Jvm.Free.XT.ii_lt_f hc2)) ?_
    show Goes p e below _ (s₁.setTop (mkF m 5 #[.val (.ref o0), .val (.int p1), .val (.int p2), .val (.long q3), .second] []))
    refine Goes.go (fun t => XS.iloadN X0.here hx rfl (hb hby dUN_5) rfl ) ?_
    show Goes p e below _ (s₁.setTop (mkF m 6 #[.val (.ref o0), .val (.int p1), .val (.int p2), .val (.long q3), .second] [(.int p1)]))
    refine Goes.go (fun t => XS.iloadN X0.here hx rfl (hb hby dUN_6) rfl ) ?_
    show Goes p e below _ (s₁.setTop (mkF m 7 #[.val (.ref o0), .val (.int p1), .val (.int p2), .val (.long q3), .second] [(.int p2), (.int p1)]))
    refine Goes.go (fun t => XS.iconst X0.here hx rfl (hb hby dUN_7)) ?_
    show Goes p e below _ (s₁.setTop (mkF m 8 #[.val (.ref o0), .val (.int p1), .val (.int p2), .val (.long q3), .second] [(.int (4 : Int32)), (.int p2), (.int p1)]))
    refine Goes.go (fun t => XS.iadd X0.here hx rfl (hb hby dUN_8) rfl) ?_
    show Goes p e below _ (s₁.setTop (mkF m 9 #[.val (.ref o0), .val (.int p1), .val (.int p2), .val (.long q3), .second] [(.int (p2 + (4 : Int32))), (.int p1)]))
    by_cases hc9 : p1 < (p2 + (4 : Int32))
    · refine Goes.go (fun t => XS.icmpNo X0.here hx rfl (hb hby dUN_9) rfl (Jvm.Free.XT.ii_ge_f hc9)) ?_
      show Goes p e below _ (s₁.setTop (mkF m 12 #[.val (.ref o0), .val (.int p1), .val (.int p2), .val (.long q3), .second] []))
      refine Goes.go (fun t => XS.iconst X0.here hx rfl (hb hby dUN_12)) ?_
      show Goes p e below _ (s₁.setTop (mkF m 13 #[.val (.ref o0), .val (.int p1), .val (.int p2), .val (.long q3), .second] [(.int (1 : Int32))]))
      exact Goes.out X0 (fun h => by rw [Bd.returns] at h; cases h) Bd.notSynchronized (fun fs hr => retN X0 hx (t := .boolean) Bd.returns (by simp) (hb hby dUN_13) hr) ⟨rfl, N0, e0⟩ (by decide) (by decide)
    · refine Goes.go (fun t => XS.icmpYes X0.here hx rfl (pc0 := 9) (pc' := 14) rfl (hb hby dUN_9) rfl (Jvm.Free.XT.ii_ge_t hc9) (by decide) (by decide)) ?_
      show Goes p e below _ (s₁.setTop (mkF m 14 #[.val (.ref o0), .val (.int p1), .val (.int p2), .val (.long q3), .second] []))
      refine Goes.go (fun t => XS.aloadN X0.here hx rfl (hb hby dUN_14) rfl rfl ) ?_
      show Goes p e below _ (s₁.setTop (mkF m 15 #[.val (.ref o0), .val (.int p1), .val (.int p2), .val (.long q3), .second] [(.ref o0)]))
      refine Goes.go (fun t => XS.iloadN X0.here hx rfl (hb hby dUN_15) rfl ) ?_
      show Goes p e below _ (s₁.setTop (mkF m 16 #[.val (.ref o0), .val (.int p1), .val (.int p2), .val (.long q3), .second] [(.int p1), (.ref o0)]))
      obtain ⟨c2, Ar2, S2, H2⟩ := id V0
      have hin2 : ¬ (p1 < 0 ∨ c2.slots.size ≤ p1.toNatClampNeg) := by rw [S2]; exact own_in hi1 hi2
      have hat2 := H2 p1.toNatClampNeg (by rw [← S2]; exact Nat.lt_of_not_le fun q => hin2 (Or.inr q))
      refine Goes.go (X0.baloadBytes hx (j := p1) (v := .int (f p1.toNatClampNeg)) (by rw [e0]; exact Ar2.1) (State.isArrayOf_alike hZ.alike Ar2.2.1) Ar2.2.2 hin2 hat2 (g := (mkF m 16 #[.val (.ref o0), .val (.int p1), .val (.int p2), .val (.long q3), .second] [(.int p1), (.ref o0)])) rfl rfl (hb hby dUN_16)) ?_
      show Goes p e below _ (s₁.setTop (mkF m 17 #[.val (.ref o0), .val (.int p1), .val (.int p2), .val (.long q3), .second] [(.int (f p1.toNatClampNeg))]))
      refine Goes.go (fun t => XS.lloadN X0.here hx rfl (hb hby dUN_17) rfl ) ?_
      show Goes p e below _ (s₁.setTop (mkF m 18 #[.val (.ref o0), .val (.int p1), .val (.int p2), .val (.long q3), .second] [(.long q3), (.int (f p1.toNatClampNeg))]))
      refine Goes.go (fun t => XS.bipush X0.here hx rfl (hb hby dUN_18)) ?_
      show Goes p e below _ (s₁.setTop (mkF m 20 #[.val (.ref o0), .val (.int p1), .val (.int p2), .val (.long q3), .second] [(.int (8 : Int32)), (.long q3), (.int (f p1.toNatClampNeg))]))
      refine Goes.go (fun t => XS.iloadN X0.here hx rfl (hb hby dUN_20) rfl ) ?_
      show Goes p e below _ (s₁.setTop (mkF m 21 #[.val (.ref o0), .val (.int p1), .val (.int p2), .val (.long q3), .second] [(.int p1), (.int (8 : Int32)), (.long q3), (.int (f p1.toNatClampNeg))]))
      refine Goes.go (fun t => XS.imul X0.here hx rfl (hb hby dUN_21) rfl) ?_
      show Goes p e below _ (s₁.setTop (mkF m 22 #[.val (.ref o0), .val (.int p1), .val (.int p2), .val (.long q3), .second] [(.int ((8 : Int32) * p1)), (.long q3), (.int (f p1.toNatClampNeg))]))
      refine Goes.go (fun t => XS.lushr X0.here hx rfl (hb hby dUN_22) rfl) ?_
      show Goes p e below _ (s₁.setTop (mkF m 23 #[.val (.ref o0), .val (.int p1), .val (.int p2), .val (.long q3), .second] [(.long ((q3.toUInt64 >>> (((8 : Int32) * p1) &&& 0x3f).toInt64.toUInt64).toInt64)), (.int (f p1.toNatClampNeg))]))
      refine Goes.go (fun t => XS.l2i X0.here hx rfl (hb hby dUN_23) rfl) ?_
      show Goes p e below _ (s₁.setTop (mkF m 24 #[.val (.ref o0), .val (.int p1), .val (.int p2), .val (.long q3), .second] [(.int (((q3.toUInt64 >>> (((8 : Int32) * p1) &&& 0x3f).toInt64.toUInt64).toInt64).toInt32)), (.int (f p1.toNatClampNeg))]))
      refine Goes.go (fun t => XS.i2b X0.here hx rfl (hb hby dUN_24) rfl) ?_
      show Goes p e below _ (s₁.setTop (mkF m 25 #[.val (.ref o0), .val (.int p1), .val (.int p2), .val (.long q3), .second] [(.int ((((q3.toUInt64 >>> (((8 : Int32) * p1) &&& 0x3f).toInt64.toUInt64).toInt64).toInt32).toInt8.toInt32)), (.int (f p1.toNatClampNeg))]))
      refine Goes.go (fun t => XS.icmpNo X0.here hx rfl (hb hby dUN_25) rfl (Jvm.Free.XT.ii_ne_f (hf (Or.inr hc9)))) ?_
      show Goes p e below _ (s₁.setTop (mkF m 28 #[.val (.ref o0), .val (.int p1), .val (.int p2), .val (.long q3), .second] []))
      refine Goes.go (fun t => XS.iconst X0.here hx rfl (hb hby dUN_28)) ?_
      show Goes p e below _ (s₁.setTop (mkF m 29 #[.val (.ref o0), .val (.int p1), .val (.int p2), .val (.long q3), .second] [(.int (1 : Int32))]))
      refine Goes.go (fun t => XS.goto X0.here hx rfl (pc0 := 29) (pc' := 33) rfl (hb hby dUN_29) (by decide) (by decide)) ?_
      show Goes p e below _ (s₁.setTop (mkF m 33 #[.val (.ref o0), .val (.int p1), .val (.int p2), .val (.long q3), .second] [(.int (1 : Int32))]))
      exact Goes.out X0 (fun h => by rw [Bd.returns] at h; cases h) Bd.notSynchronized (fun fs hr => retN X0 hx (t := .boolean) Bd.returns (by simp) (hb hby dUN_33) hr) ⟨rfl, N0, e0⟩ (by decide) (by decide)
theorem own_fill (q : Int64) : ∀ i, i < 8 → (fun i => if i = (7 : Int32).toNatClampNeg then ((((q.toUInt64 >>> ((56 : Int32) &&& 0x3f).toInt64.toUInt64).toInt64).toInt32).toInt8.toInt32) else (fun i => if i = (6 : Int32).toNatClampNeg then ((((q.toUInt64 >>> ((48 : Int32) &&& 0x3f).toInt64.toUInt64).toInt64).toInt32).toInt8.toInt32) else (fun i => if i = (5 : Int32).toNatClampNeg then ((((q.toUInt64 >>> ((40 : Int32) &&& 0x3f).toInt64.toUInt64).toInt64).toInt32).toInt8.toInt32) else (fun i => if i = (4 : Int32).toNatClampNeg then ((((q.toUInt64 >>> ((32 : Int32) &&& 0x3f).toInt64.toUInt64).toInt64).toInt32).toInt8.toInt32) else (fun i => if i = (3 : Int32).toNatClampNeg then ((((q.toUInt64 >>> ((24 : Int32) &&& 0x3f).toInt64.toUInt64).toInt64).toInt32).toInt8.toInt32) else (fun i => if i = (2 : Int32).toNatClampNeg then ((((q.toUInt64 >>> ((16 : Int32) &&& 0x3f).toInt64.toUInt64).toInt64).toInt32).toInt8.toInt32) else (fun i => if i = (1 : Int32).toNatClampNeg then ((((q.toUInt64 >>> ((8 : Int32) &&& 0x3f).toInt64.toUInt64).toInt64).toInt32).toInt8.toInt32) else (fun i => if i = (0 : Int32).toNatClampNeg then ((q.toInt32).toInt8.toInt32) else (fun _ => 0) i) i) i) i) i) i) i) i) i = (fun i => own_b q (Nat.toInt32 i)) i := by
  intro i hi
  match i, hi with
  | 0, _ =>
    show ((q.toInt32).toInt8.toInt32) = own_b q (Nat.toInt32 0)
    unfold own_b
    rw [show (((8 : Int32) * Nat.toInt32 0) &&& 0x3f).toInt64.toUInt64 = 0 by decide, UInt64.shiftRight_zero, Int64.toInt64_toUInt64]
  | 1, _ =>
    show ((((q.toUInt64 >>> ((8 : Int32) &&& 0x3f).toInt64.toUInt64).toInt64).toInt32).toInt8.toInt32) = own_b q (Nat.toInt32 1)
    unfold own_b
    rw [show (((8 : Int32) * Nat.toInt32 1) &&& 0x3f) = ((8 : Int32) &&& 0x3f) by decide]
  | 2, _ =>
    show ((((q.toUInt64 >>> ((16 : Int32) &&& 0x3f).toInt64.toUInt64).toInt64).toInt32).toInt8.toInt32) = own_b q (Nat.toInt32 2)
    unfold own_b
    rw [show (((8 : Int32) * Nat.toInt32 2) &&& 0x3f) = ((16 : Int32) &&& 0x3f) by decide]
  | 3, _ =>
    show ((((q.toUInt64 >>> ((24 : Int32) &&& 0x3f).toInt64.toUInt64).toInt64).toInt32).toInt8.toInt32) = own_b q (Nat.toInt32 3)
    unfold own_b
    rw [show (((8 : Int32) * Nat.toInt32 3) &&& 0x3f) = ((24 : Int32) &&& 0x3f) by decide]
  | 4, _ =>
    show ((((q.toUInt64 >>> ((32 : Int32) &&& 0x3f).toInt64.toUInt64).toInt64).toInt32).toInt8.toInt32) = own_b q (Nat.toInt32 4)
    unfold own_b
    rw [show (((8 : Int32) * Nat.toInt32 4) &&& 0x3f) = ((32 : Int32) &&& 0x3f) by decide]
  | 5, _ =>
    show ((((q.toUInt64 >>> ((40 : Int32) &&& 0x3f).toInt64.toUInt64).toInt64).toInt32).toInt8.toInt32) = own_b q (Nat.toInt32 5)
    unfold own_b
    rw [show (((8 : Int32) * Nat.toInt32 5) &&& 0x3f) = ((40 : Int32) &&& 0x3f) by decide]
  | 6, _ =>
    show ((((q.toUInt64 >>> ((48 : Int32) &&& 0x3f).toInt64.toUInt64).toInt64).toInt32).toInt8.toInt32) = own_b q (Nat.toInt32 6)
    unfold own_b
    rw [show (((8 : Int32) * Nat.toInt32 6) &&& 0x3f) = ((48 : Int32) &&& 0x3f) by decide]
  | 7, _ =>
    show ((((q.toUInt64 >>> ((56 : Int32) &&& 0x3f).toInt64.toUInt64).toInt64).toInt32).toInt8.toInt32) = own_b q (Nat.toInt32 7)
    unfold own_b
    rw [show (((8 : Int32) * Nat.toInt32 7) &&& 0x3f) = ((56 : Int32) &&& 0x3f) by decide]
  | n + 8, h => exact absurd h (by omega)
theorem pn_0 : plainName "com/example/halyard/halyard/BinaryEncoderPutInt32PinLaw" = true := by first | (simp [plainName, overriddenIn]; done) | decide +kernel
theorem pd0_0 : parseMethodDescriptor "([BII)V" = some ⟨[(.array .byte), .int, .int], none⟩ := by decide +kernel
theorem pd0_1 : parseMethodDescriptor "([BIIJ)Z" = some ⟨[(.array .byte), .int, .int, .long], some .boolean⟩ := by decide +kernel
theorem ef_0 (m : MethodId) (p0 : Int32) (p1 : Int32) (q2 : Int64) : entryFrame m #[(.int p0), (.int p1), (.long q2)] maxLocals = mkF m 0 #[.val (.int p0), .val (.int p1), .val (.long q2), .second, .unset, .unset, .unset, .unset] [] := by first | (simp [entryFrame, mkF, argsToLocals, Value.category, maxLocals]; done) | rfl
def Q0 (Z : State) (p0 : Int32) (p1 : Int32) (q2 : Int64) (h0 : Heap) (n0 : Nat) (v : Option Value) (h : Heap) (L : List Loc) : Prop := v = some (.int 1) ∧ Fr n0 L
set_option maxRecDepth 65536 in
set_option maxHeartbeats 40000000 in
theorem rm0 (l : Launch) (Z : State) (a0 : Array Value) (hw : ∀ d ∈ tables_1, d.before a0 Z = true) (ws : List Jvm.Cond) (p0 : Int32) (p1 : Int32) (q2 : Int64) (h0 : Heap) (n0 : Nat) (Z0 : n0 ≤ h0.size) :
    MetFree l x (head1 (Jvm.Cond.code x code maxLocals ret :: ws) room_1) (fun a U => a = #[(.int p0), (.int p1), (.long q2)] ∧ Z.Warmed39 U.vm ∧ U.heap = h0) (fun _ _ _ _ _ => True) (fun _ U o U' => ∃ v L, o = .returned v ∧ Q0 Z p0 p1 q2 h0 n0 v U'.heap L ∧ FrameEnd U o U' L room_1.cells room_1.slots) := by
  refine MetFree.of_bodySF (plainFor_of_name pn_0) hisR ?_
  intro p e s m args below meth c s₁ Bd hml0 hP hK
  obtain ⟨rfl, hZ, hh⟩ := hP
  have hx := Bd.exec
  have hby := Bd.bytes
  have hml : c.maxLocals = 8 := hml0
  have hown : s.vm.findClass "com/example/halyard/halyard/BinaryEncoderPutInt32PinLaw" = some m.cls := findClass_of_methodNamed Bd.named
  have hnm := (name_of_methodNamed Bd.named Bd.method).1
  have X0 : Stand p l e room_1 s m #[(.int p0), (.int p1), (.long q2)] below meth c s₁ [] 0 0 := Stand.of_body Bd
  have e0 : s₁.heap = h0 := by rw [← hh, Bd.state]; rfl
  have N0 := Fr.nil n0
  show Goes p e below (fun o U' => ∃ v L, o = .returned v ∧ Q0 Z p0 p1 q2 h0 n0 v U'.heap L ∧ FrameEnd s o U' L room_1.cells room_1.slots) _
  refine Goes.go (fun t k => castTop (ef_0 m p0 p1 q2) k) ?_
  show Goes p e below _ (s₁.setTop (mkF m 0 #[.val (.int p0), .val (.int p1), .val (.long q2), .second, .unset, .unset, .unset, .unset] []))
  refine Goes.go (fun t => XS.bipush X0.here hx rfl (hb hby at_0)) ?_
  show Goes p e below _ (s₁.setTop (mkF m 2 #[.val (.int p0), .val (.int p1), .val (.long q2), .second, .unset, .unset, .unset, .unset] [(.int (8 : Int32))]))
  obtain ⟨T1, h1, k1, X1, e1, E1, A1, st1⟩ := newP X0 hx hZ (hw _ (List.mem_of_getElem? (i := 0) rfl)) e0 (g := (mkF m 2 #[.val (.int p0), .val (.int p1), .val (.long q2), .second, .unset, .unset, .unset, .unset] [(.int (8 : Int32))])) rfl (hb hby at_2) rfl (by decide) (cap := 8) (by decide) (by decide) (by decide) (by decide)
  obtain ⟨b, gb⟩ : ∃ z, z = h0.size := ⟨_, rfl⟩
  rw [← gb] at A1 st1
  have V1 := own_ab.made A1 (by decide)
  have g_b : n0 ≤ b := Nat.le_trans Z0 (Nat.le_of_eq gb.symm)
  have Z1 : n0 ≤ h1.size := Nat.le_trans Z0 E1.1
  refine Goes.go st1 ?_
  show Goes p e below _ (T1.setTop (mkF m 4 #[.val (.int p0), .val (.int p1), .val (.long q2), .second, .unset, .unset, .unset, .unset] [(.ref b)]))
  refine Goes.go (fun t => XS.astore X1.here hx rfl (hb hby at_4) rfl rfl (l' := #[.val (.int p0), .val (.int p1), .val (.long q2), .second, .val (.ref b), .unset, .unset, .unset]) rfl) ?_
  show Goes p e below _ (T1.setTop (mkF m 6 #[.val (.int p0), .val (.int p1), .val (.long q2), .second, .val (.ref b), .unset, .unset, .unset] []))
  refine Goes.go (fun t => XS.aload X1.here hx rfl (hb hby at_6) rfl rfl ) ?_
  show Goes p e below _ (T1.setTop (mkF m 8 #[.val (.int p0), .val (.int p1), .val (.long q2), .second, .val (.ref b), .unset, .unset, .unset] [(.ref b)]))
  refine Goes.go (fun t => XS.iconst X1.here hx rfl (hb hby at_8)) ?_
  show Goes p e below _ (T1.setTop (mkF m 9 #[.val (.int p0), .val (.int p1), .val (.long q2), .second, .val (.ref b), .unset, .unset, .unset] [(.int (0 : Int32)), (.ref b)]))
  refine Goes.go (fun t => XS.lloadN X1.here hx rfl (hb hby at_9) rfl ) ?_
  show Goes p e below _ (T1.setTop (mkF m 10 #[.val (.int p0), .val (.int p1), .val (.long q2), .second, .val (.ref b), .unset, .unset, .unset] [(.long q2), (.int (0 : Int32)), (.ref b)]))
  refine Goes.go (fun t => XS.l2i X1.here hx rfl (hb hby at_10) rfl) ?_
  show Goes p e below _ (T1.setTop (mkF m 11 #[.val (.int p0), .val (.int p1), .val (.long q2), .second, .val (.ref b), .unset, .unset, .unset] [(.int (q2.toInt32)), (.int (0 : Int32)), (.ref b)]))
  refine Goes.go (fun t => XS.i2b X1.here hx rfl (hb hby at_11) rfl) ?_
  show Goes p e below _ (T1.setTop (mkF m 12 #[.val (.int p0), .val (.int p1), .val (.long q2), .second, .val (.ref b), .unset, .unset, .unset] [(.int ((q2.toInt32).toInt8.toInt32)), (.int (0 : Int32)), (.ref b)]))
  obtain ⟨c2, Ar2, S2, H2⟩ := id V1
  obtain ⟨T2, h2, X2, e2, V2w, st2⟩ := stB X1 hx hZ e1 Ar2 (j := (0 : Int32)) (by rw [S2]; exact (by decide)) (g := (mkF m 12 #[.val (.int p0), .val (.int p1), .val (.long q2), .second, .val (.ref b), .unset, .unset, .unset] [(.int ((q2.toInt32).toInt8.toInt32)), (.int (0 : Int32)), (.ref b)])) rfl rfl (hb hby at_12)
  have W2 : Wr h1 h2 b (0 : Int32).toNatClampNeg (.int ((q2.toInt32).toInt8.toInt32)) := own_w V2w
  have V2 := own_ab.wr V1 W2
  have Z2 : n0 ≤ h2.size := Nat.le_trans Z1 (Nat.le_of_eq W2.size.symm)
  have N2 := Fr.snoc X2 N0 g_b
  refine Goes.go st2 ?_
  obtain ⟨LL3, XL3, NL3⟩ : ∃ LL : List Loc, Stand p l e room_1 s m #[(.int p0), (.int p1), (.long q2)] below meth c T2 LL 1 8 ∧ Fr n0 LL := ⟨_, X2, N2⟩
  show Goes p e below _ (T2.setTop (mkF m 13 #[.val (.int p0), .val (.int p1), .val (.long q2), .second, .val (.ref b), .unset, .unset, .unset] []))
  refine Goes.go (fun t => XS.aload XL3.here hx rfl (hb hby at_13) rfl rfl ) ?_
  show Goes p e below _ (T2.setTop (mkF m 15 #[.val (.int p0), .val (.int p1), .val (.long q2), .second, .val (.ref b), .unset, .unset, .unset] [(.ref b)]))
  refine Goes.go (fun t => XS.iconst XL3.here hx rfl (hb hby at_15)) ?_
  show Goes p e below _ (T2.setTop (mkF m 16 #[.val (.int p0), .val (.int p1), .val (.long q2), .second, .val (.ref b), .unset, .unset, .unset] [(.int (1 : Int32)), (.ref b)]))
  refine Goes.go (fun t => XS.lloadN XL3.here hx rfl (hb hby at_16) rfl ) ?_
  show Goes p e below _ (T2.setTop (mkF m 17 #[.val (.int p0), .val (.int p1), .val (.long q2), .second, .val (.ref b), .unset, .unset, .unset] [(.long q2), (.int (1 : Int32)), (.ref b)]))
  refine Goes.go (fun t => XS.bipush XL3.here hx rfl (hb hby at_17)) ?_
  show Goes p e below _ (T2.setTop (mkF m 19 #[.val (.int p0), .val (.int p1), .val (.long q2), .second, .val (.ref b), .unset, .unset, .unset] [(.int (8 : Int32)), (.long q2), (.int (1 : Int32)), (.ref b)]))
  refine Goes.go (fun t => XS.lushr XL3.here hx rfl (hb hby at_19) rfl) ?_
  show Goes p e below _ (T2.setTop (mkF m 20 #[.val (.int p0), .val (.int p1), .val (.long q2), .second, .val (.ref b), .unset, .unset, .unset] [(.long ((q2.toUInt64 >>> ((8 : Int32) &&& 0x3f).toInt64.toUInt64).toInt64)), (.int (1 : Int32)), (.ref b)]))
  refine Goes.go (fun t => XS.l2i XL3.here hx rfl (hb hby at_20) rfl) ?_
  show Goes p e below _ (T2.setTop (mkF m 21 #[.val (.int p0), .val (.int p1), .val (.long q2), .second, .val (.ref b), .unset, .unset, .unset] [(.int (((q2.toUInt64 >>> ((8 : Int32) &&& 0x3f).toInt64.toUInt64).toInt64).toInt32)), (.int (1 : Int32)), (.ref b)]))
  refine Goes.go (fun t => XS.i2b XL3.here hx rfl (hb hby at_21) rfl) ?_
  show Goes p e below _ (T2.setTop (mkF m 22 #[.val (.int p0), .val (.int p1), .val (.long q2), .second, .val (.ref b), .unset, .unset, .unset] [(.int ((((q2.toUInt64 >>> ((8 : Int32) &&& 0x3f).toInt64.toUInt64).toInt64).toInt32).toInt8.toInt32)), (.int (1 : Int32)), (.ref b)]))
  obtain ⟨c4, Ar4, S4, H4⟩ := id V2
  obtain ⟨T4, h4, X4, e4, V4w, st4⟩ := stB XL3 hx hZ e2 Ar4 (j := (1 : Int32)) (by rw [S4]; exact (by decide)) (g := (mkF m 22 #[.val (.int p0), .val (.int p1), .val (.long q2), .second, .val (.ref b), .unset, .unset, .unset] [(.int ((((q2.toUInt64 >>> ((8 : Int32) &&& 0x3f).toInt64.toUInt64).toInt64).toInt32).toInt8.toInt32)), (.int (1 : Int32)), (.ref b)])) rfl rfl (hb hby at_22)
  have W4 : Wr h2 h4 b (1 : Int32).toNatClampNeg (.int ((((q2.toUInt64 >>> ((8 : Int32) &&& 0x3f).toInt64.toUInt64).toInt64).toInt32).toInt8.toInt32)) := own_w V4w
  have V4 := own_ab.wr V2 W4
  have Z4 : n0 ≤ h4.size := Nat.le_trans Z2 (Nat.le_of_eq W4.size.symm)
  have N4 := Fr.snoc X4 NL3 g_b
  refine Goes.go st4 ?_
  obtain ⟨LL5, XL5, NL5⟩ : ∃ LL : List Loc, Stand p l e room_1 s m #[(.int p0), (.int p1), (.long q2)] below meth c T4 LL 1 8 ∧ Fr n0 LL := ⟨_, X4, N4⟩
  show Goes p e below _ (T4.setTop (mkF m 23 #[.val (.int p0), .val (.int p1), .val (.long q2), .second, .val (.ref b), .unset, .unset, .unset] []))
  refine Goes.go (fun t => XS.aload XL5.here hx rfl (hb hby at_23) rfl rfl ) ?_
  show Goes p e below _ (T4.setTop (mkF m 25 #[.val (.int p0), .val (.int p1), .val (.long q2), .second, .val (.ref b), .unset, .unset, .unset] [(.ref b)]))
  refine Goes.go (fun t => XS.iconst XL5.here hx rfl (hb hby at_25)) ?_
  show Goes p e below _ (T4.setTop (mkF m 26 #[.val (.int p0), .val (.int p1), .val (.long q2), .second, .val (.ref b), .unset, .unset, .unset] [(.int (2 : Int32)), (.ref b)]))
  refine Goes.go (fun t => XS.lloadN XL5.here hx rfl (hb hby at_26) rfl ) ?_
  show Goes p e below _ (T4.setTop (mkF m 27 #[.val (.int p0), .val (.int p1), .val (.long q2), .second, .val (.ref b), .unset, .unset, .unset] [(.long q2), (.int (2 : Int32)), (.ref b)]))
  refine Goes.go (fun t => XS.bipush XL5.here hx rfl (hb hby at_27)) ?_
  show Goes p e below _ (T4.setTop (mkF m 29 #[.val (.int p0), .val (.int p1), .val (.long q2), .second, .val (.ref b), .unset, .unset, .unset] [(.int (16 : Int32)), (.long q2), (.int (2 : Int32)), (.ref b)]))
  refine Goes.go (fun t => XS.lushr XL5.here hx rfl (hb hby at_29) rfl) ?_
  show Goes p e below _ (T4.setTop (mkF m 30 #[.val (.int p0), .val (.int p1), .val (.long q2), .second, .val (.ref b), .unset, .unset, .unset] [(.long ((q2.toUInt64 >>> ((16 : Int32) &&& 0x3f).toInt64.toUInt64).toInt64)), (.int (2 : Int32)), (.ref b)]))
  refine Goes.go (fun t => XS.l2i XL5.here hx rfl (hb hby at_30) rfl) ?_
  show Goes p e below _ (T4.setTop (mkF m 31 #[.val (.int p0), .val (.int p1), .val (.long q2), .second, .val (.ref b), .unset, .unset, .unset] [(.int (((q2.toUInt64 >>> ((16 : Int32) &&& 0x3f).toInt64.toUInt64).toInt64).toInt32)), (.int (2 : Int32)), (.ref b)]))
  refine Goes.go (fun t => XS.i2b XL5.here hx rfl (hb hby at_31) rfl) ?_
  show Goes p e below _ (T4.setTop (mkF m 32 #[.val (.int p0), .val (.int p1), .val (.long q2), .second, .val (.ref b), .unset, .unset, .unset] [(.int ((((q2.toUInt64 >>> ((16 : Int32) &&& 0x3f).toInt64.toUInt64).toInt64).toInt32).toInt8.toInt32)), (.int (2 : Int32)), (.ref b)]))
  obtain ⟨c6, Ar6, S6, H6⟩ := id V4
  obtain ⟨T6, h6, X6, e6, V6w, st6⟩ := stB XL5 hx hZ e4 Ar6 (j := (2 : Int32)) (by rw [S6]; exact (by decide)) (g := (mkF m 32 #[.val (.int p0), .val (.int p1), .val (.long q2), .second, .val (.ref b), .unset, .unset, .unset] [(.int ((((q2.toUInt64 >>> ((16 : Int32) &&& 0x3f).toInt64.toUInt64).toInt64).toInt32).toInt8.toInt32)), (.int (2 : Int32)), (.ref b)])) rfl rfl (hb hby at_32)
  have W6 : Wr h4 h6 b (2 : Int32).toNatClampNeg (.int ((((q2.toUInt64 >>> ((16 : Int32) &&& 0x3f).toInt64.toUInt64).toInt64).toInt32).toInt8.toInt32)) := own_w V6w
  have V6 := own_ab.wr V4 W6
  have Z6 : n0 ≤ h6.size := Nat.le_trans Z4 (Nat.le_of_eq W6.size.symm)
  have N6 := Fr.snoc X6 NL5 g_b
  refine Goes.go st6 ?_
  obtain ⟨LL7, XL7, NL7⟩ : ∃ LL : List Loc, Stand p l e room_1 s m #[(.int p0), (.int p1), (.long q2)] below meth c T6 LL 1 8 ∧ Fr n0 LL := ⟨_, X6, N6⟩
  show Goes p e below _ (T6.setTop (mkF m 33 #[.val (.int p0), .val (.int p1), .val (.long q2), .second, .val (.ref b), .unset, .unset, .unset] []))
  refine Goes.go (fun t => XS.aload XL7.here hx rfl (hb hby at_33) rfl rfl ) ?_
  show Goes p e below _ (T6.setTop (mkF m 35 #[.val (.int p0), .val (.int p1), .val (.long q2), .second, .val (.ref b), .unset, .unset, .unset] [(.ref b)]))
  refine Goes.go (fun t => XS.iconst XL7.here hx rfl (hb hby at_35)) ?_
  show Goes p e below _ (T6.setTop (mkF m 36 #[.val (.int p0), .val (.int p1), .val (.long q2), .second, .val (.ref b), .unset, .unset, .unset] [(.int (3 : Int32)), (.ref b)]))
  refine Goes.go (fun t => XS.lloadN XL7.here hx rfl (hb hby at_36) rfl ) ?_
  show Goes p e below _ (T6.setTop (mkF m 37 #[.val (.int p0), .val (.int p1), .val (.long q2), .second, .val (.ref b), .unset, .unset, .unset] [(.long q2), (.int (3 : Int32)), (.ref b)]))
  refine Goes.go (fun t => XS.bipush XL7.here hx rfl (hb hby at_37)) ?_
  show Goes p e below _ (T6.setTop (mkF m 39 #[.val (.int p0), .val (.int p1), .val (.long q2), .second, .val (.ref b), .unset, .unset, .unset] [(.int (24 : Int32)), (.long q2), (.int (3 : Int32)), (.ref b)]))
  refine Goes.go (fun t => XS.lushr XL7.here hx rfl (hb hby at_39) rfl) ?_
  show Goes p e below _ (T6.setTop (mkF m 40 #[.val (.int p0), .val (.int p1), .val (.long q2), .second, .val (.ref b), .unset, .unset, .unset] [(.long ((q2.toUInt64 >>> ((24 : Int32) &&& 0x3f).toInt64.toUInt64).toInt64)), (.int (3 : Int32)), (.ref b)]))
  refine Goes.go (fun t => XS.l2i XL7.here hx rfl (hb hby at_40) rfl) ?_
  show Goes p e below _ (T6.setTop (mkF m 41 #[.val (.int p0), .val (.int p1), .val (.long q2), .second, .val (.ref b), .unset, .unset, .unset] [(.int (((q2.toUInt64 >>> ((24 : Int32) &&& 0x3f).toInt64.toUInt64).toInt64).toInt32)), (.int (3 : Int32)), (.ref b)]))
  refine Goes.go (fun t => XS.i2b XL7.here hx rfl (hb hby at_41) rfl) ?_
  show Goes p e below _ (T6.setTop (mkF m 42 #[.val (.int p0), .val (.int p1), .val (.long q2), .second, .val (.ref b), .unset, .unset, .unset] [(.int ((((q2.toUInt64 >>> ((24 : Int32) &&& 0x3f).toInt64.toUInt64).toInt64).toInt32).toInt8.toInt32)), (.int (3 : Int32)), (.ref b)]))
  obtain ⟨c8, Ar8, S8, H8⟩ := id V6
  obtain ⟨T8, h8, X8, e8, V8w, st8⟩ := stB XL7 hx hZ e6 Ar8 (j := (3 : Int32)) (by rw [S8]; exact (by decide)) (g := (mkF m 42 #[.val (.int p0), .val (.int p1), .val (.long q2), .second, .val (.ref b), .unset, .unset, .unset] [(.int ((((q2.toUInt64 >>> ((24 : Int32) &&& 0x3f).toInt64.toUInt64).toInt64).toInt32).toInt8.toInt32)), (.int (3 : Int32)), (.ref b)])) rfl rfl (hb hby at_42)
  have W8 : Wr h6 h8 b (3 : Int32).toNatClampNeg (.int ((((q2.toUInt64 >>> ((24 : Int32) &&& 0x3f).toInt64.toUInt64).toInt64).toInt32).toInt8.toInt32)) := own_w V8w
  have V8 := own_ab.wr V6 W8
  have Z8 : n0 ≤ h8.size := Nat.le_trans Z6 (Nat.le_of_eq W8.size.symm)
  have N8 := Fr.snoc X8 NL7 g_b
  refine Goes.go st8 ?_
  obtain ⟨LL9, XL9, NL9⟩ : ∃ LL : List Loc, Stand p l e room_1 s m #[(.int p0), (.int p1), (.long q2)] below meth c T8 LL 1 8 ∧ Fr n0 LL := ⟨_, X8, N8⟩
  show Goes p e below _ (T8.setTop (mkF m 43 #[.val (.int p0), .val (.int p1), .val (.long q2), .second, .val (.ref b), .unset, .unset, .unset] []))
  refine Goes.go (fun t => XS.aload XL9.here hx rfl (hb hby at_43) rfl rfl ) ?_
  show Goes p e below _ (T8.setTop (mkF m 45 #[.val (.int p0), .val (.int p1), .val (.long q2), .second, .val (.ref b), .unset, .unset, .unset] [(.ref b)]))
  refine Goes.go (fun t => XS.iconst XL9.here hx rfl (hb hby at_45)) ?_
  show Goes p e below _ (T8.setTop (mkF m 46 #[.val (.int p0), .val (.int p1), .val (.long q2), .second, .val (.ref b), .unset, .unset, .unset] [(.int (4 : Int32)), (.ref b)]))
  refine Goes.go (fun t => XS.lloadN XL9.here hx rfl (hb hby at_46) rfl ) ?_
  show Goes p e below _ (T8.setTop (mkF m 47 #[.val (.int p0), .val (.int p1), .val (.long q2), .second, .val (.ref b), .unset, .unset, .unset] [(.long q2), (.int (4 : Int32)), (.ref b)]))
  refine Goes.go (fun t => XS.bipush XL9.here hx rfl (hb hby at_47)) ?_
  show Goes p e below _ (T8.setTop (mkF m 49 #[.val (.int p0), .val (.int p1), .val (.long q2), .second, .val (.ref b), .unset, .unset, .unset] [(.int (32 : Int32)), (.long q2), (.int (4 : Int32)), (.ref b)]))
  refine Goes.go (fun t => XS.lushr XL9.here hx rfl (hb hby at_49) rfl) ?_
  show Goes p e below _ (T8.setTop (mkF m 50 #[.val (.int p0), .val (.int p1), .val (.long q2), .second, .val (.ref b), .unset, .unset, .unset] [(.long ((q2.toUInt64 >>> ((32 : Int32) &&& 0x3f).toInt64.toUInt64).toInt64)), (.int (4 : Int32)), (.ref b)]))
  refine Goes.go (fun t => XS.l2i XL9.here hx rfl (hb hby at_50) rfl) ?_
  show Goes p e below _ (T8.setTop (mkF m 51 #[.val (.int p0), .val (.int p1), .val (.long q2), .second, .val (.ref b), .unset, .unset, .unset] [(.int (((q2.toUInt64 >>> ((32 : Int32) &&& 0x3f).toInt64.toUInt64).toInt64).toInt32)), (.int (4 : Int32)), (.ref b)]))
  refine Goes.go (fun t => XS.i2b XL9.here hx rfl (hb hby at_51) rfl) ?_
  show Goes p e below _ (T8.setTop (mkF m 52 #[.val (.int p0), .val (.int p1), .val (.long q2), .second, .val (.ref b), .unset, .unset, .unset] [(.int ((((q2.toUInt64 >>> ((32 : Int32) &&& 0x3f).toInt64.toUInt64).toInt64).toInt32).toInt8.toInt32)), (.int (4 : Int32)), (.ref b)]))
  obtain ⟨c10, Ar10, S10, H10⟩ := id V8
  obtain ⟨T10, h10, X10, e10, V10w, st10⟩ := stB XL9 hx hZ e8 Ar10 (j := (4 : Int32)) (by rw [S10]; exact (by decide)) (g := (mkF m 52 #[.val (.int p0), .val (.int p1), .val (.long q2), .second, .val (.ref b), .unset, .unset, .unset] [(.int ((((q2.toUInt64 >>> ((32 : Int32) &&& 0x3f).toInt64.toUInt64).toInt64).toInt32).toInt8.toInt32)), (.int (4 : Int32)), (.ref b)])) rfl rfl (hb hby at_52)
  have W10 : Wr h8 h10 b (4 : Int32).toNatClampNeg (.int ((((q2.toUInt64 >>> ((32 : Int32) &&& 0x3f).toInt64.toUInt64).toInt64).toInt32).toInt8.toInt32)) := own_w V10w
  have V10 := own_ab.wr V8 W10
  have Z10 : n0 ≤ h10.size := Nat.le_trans Z8 (Nat.le_of_eq W10.size.symm)
  have N10 := Fr.snoc X10 NL9 g_b
  refine Goes.go st10 ?_
  obtain ⟨LL11, XL11, NL11⟩ : ∃ LL : List Loc, Stand p l e room_1 s m #[(.int p0), (.int p1), (.long q2)] below meth c T10 LL 1 8 ∧ Fr n0 LL := ⟨_, X10, N10⟩
  show Goes p e below _ (T10.setTop (mkF m 53 #[.val (.int p0), .val (.int p1), .val (.long q2), .second, .val (.ref b), .unset, .unset, .unset] []))
  refine Goes.go (fun t => XS.aload XL11.here hx rfl (hb hby at_53) rfl rfl ) ?_
  show Goes p e below _ (T10.setTop (mkF m 55 #[.val (.int p0), .val (.int p1), .val (.long q2), .second, .val (.ref b), .unset, .unset, .unset] [(.ref b)]))
  refine Goes.go (fun t => XS.iconst XL11.here hx rfl (hb hby at_55)) ?_
  show Goes p e below _ (T10.setTop (mkF m 56 #[.val (.int p0), .val (.int p1), .val (.long q2), .second, .val (.ref b), .unset, .unset, .unset] [(.int (5 : Int32)), (.ref b)]))
  refine Goes.go (fun t => XS.lloadN XL11.here hx rfl (hb hby at_56) rfl ) ?_
  show Goes p e below _ (T10.setTop (mkF m 57 #[.val (.int p0), .val (.int p1), .val (.long q2), .second, .val (.ref b), .unset, .unset, .unset] [(.long q2), (.int (5 : Int32)), (.ref b)]))
  refine Goes.go (fun t => XS.bipush XL11.here hx rfl (hb hby at_57)) ?_
  show Goes p e below _ (T10.setTop (mkF m 59 #[.val (.int p0), .val (.int p1), .val (.long q2), .second, .val (.ref b), .unset, .unset, .unset] [(.int (40 : Int32)), (.long q2), (.int (5 : Int32)), (.ref b)]))
  refine Goes.go (fun t => XS.lushr XL11.here hx rfl (hb hby at_59) rfl) ?_
  show Goes p e below _ (T10.setTop (mkF m 60 #[.val (.int p0), .val (.int p1), .val (.long q2), .second, .val (.ref b), .unset, .unset, .unset] [(.long ((q2.toUInt64 >>> ((40 : Int32) &&& 0x3f).toInt64.toUInt64).toInt64)), (.int (5 : Int32)), (.ref b)]))
  refine Goes.go (fun t => XS.l2i XL11.here hx rfl (hb hby at_60) rfl) ?_
  show Goes p e below _ (T10.setTop (mkF m 61 #[.val (.int p0), .val (.int p1), .val (.long q2), .second, .val (.ref b), .unset, .unset, .unset] [(.int (((q2.toUInt64 >>> ((40 : Int32) &&& 0x3f).toInt64.toUInt64).toInt64).toInt32)), (.int (5 : Int32)), (.ref b)]))
  refine Goes.go (fun t => XS.i2b XL11.here hx rfl (hb hby at_61) rfl) ?_
  show Goes p e below _ (T10.setTop (mkF m 62 #[.val (.int p0), .val (.int p1), .val (.long q2), .second, .val (.ref b), .unset, .unset, .unset] [(.int ((((q2.toUInt64 >>> ((40 : Int32) &&& 0x3f).toInt64.toUInt64).toInt64).toInt32).toInt8.toInt32)), (.int (5 : Int32)), (.ref b)]))
  obtain ⟨c12, Ar12, S12, H12⟩ := id V10
  obtain ⟨T12, h12, X12, e12, V12w, st12⟩ := stB XL11 hx hZ e10 Ar12 (j := (5 : Int32)) (by rw [S12]; exact (by decide)) (g := (mkF m 62 #[.val (.int p0), .val (.int p1), .val (.long q2), .second, .val (.ref b), .unset, .unset, .unset] [(.int ((((q2.toUInt64 >>> ((40 : Int32) &&& 0x3f).toInt64.toUInt64).toInt64).toInt32).toInt8.toInt32)), (.int (5 : Int32)), (.ref b)])) rfl rfl (hb hby at_62)
  have W12 : Wr h10 h12 b (5 : Int32).toNatClampNeg (.int ((((q2.toUInt64 >>> ((40 : Int32) &&& 0x3f).toInt64.toUInt64).toInt64).toInt32).toInt8.toInt32)) := own_w V12w
  have V12 := own_ab.wr V10 W12
  have Z12 : n0 ≤ h12.size := Nat.le_trans Z10 (Nat.le_of_eq W12.size.symm)
  have N12 := Fr.snoc X12 NL11 g_b
  refine Goes.go st12 ?_
  obtain ⟨LL13, XL13, NL13⟩ : ∃ LL : List Loc, Stand p l e room_1 s m #[(.int p0), (.int p1), (.long q2)] below meth c T12 LL 1 8 ∧ Fr n0 LL := ⟨_, X12, N12⟩
  show Goes p e below _ (T12.setTop (mkF m 63 #[.val (.int p0), .val (.int p1), .val (.long q2), .second, .val (.ref b), .unset, .unset, .unset] []))
  refine Goes.go (fun t => XS.aload XL13.here hx rfl (hb hby at_63) rfl rfl ) ?_
  show Goes p e below _ (T12.setTop (mkF m 65 #[.val (.int p0), .val (.int p1), .val (.long q2), .second, .val (.ref b), .unset, .unset, .unset] [(.ref b)]))
  refine Goes.go (fun t => XS.bipush XL13.here hx rfl (hb hby at_65)) ?_
  show Goes p e below _ (T12.setTop (mkF m 67 #[.val (.int p0), .val (.int p1), .val (.long q2), .second, .val (.ref b), .unset, .unset, .unset] [(.int (6 : Int32)), (.ref b)]))
  refine Goes.go (fun t => XS.lloadN XL13.here hx rfl (hb hby at_67) rfl ) ?_
  show Goes p e below _ (T12.setTop (mkF m 68 #[.val (.int p0), .val (.int p1), .val (.long q2), .second, .val (.ref b), .unset, .unset, .unset] [(.long q2), (.int (6 : Int32)), (.ref b)]))
  refine Goes.go (fun t => XS.bipush XL13.here hx rfl (hb hby at_68)) ?_
  show Goes p e below _ (T12.setTop (mkF m 70 #[.val (.int p0), .val (.int p1), .val (.long q2), .second, .val (.ref b), .unset, .unset, .unset] [(.int (48 : Int32)), (.long q2), (.int (6 : Int32)), (.ref b)]))
  refine Goes.go (fun t => XS.lushr XL13.here hx rfl (hb hby at_70) rfl) ?_
  show Goes p e below _ (T12.setTop (mkF m 71 #[.val (.int p0), .val (.int p1), .val (.long q2), .second, .val (.ref b), .unset, .unset, .unset] [(.long ((q2.toUInt64 >>> ((48 : Int32) &&& 0x3f).toInt64.toUInt64).toInt64)), (.int (6 : Int32)), (.ref b)]))
  refine Goes.go (fun t => XS.l2i XL13.here hx rfl (hb hby at_71) rfl) ?_
  show Goes p e below _ (T12.setTop (mkF m 72 #[.val (.int p0), .val (.int p1), .val (.long q2), .second, .val (.ref b), .unset, .unset, .unset] [(.int (((q2.toUInt64 >>> ((48 : Int32) &&& 0x3f).toInt64.toUInt64).toInt64).toInt32)), (.int (6 : Int32)), (.ref b)]))
  refine Goes.go (fun t => XS.i2b XL13.here hx rfl (hb hby at_72) rfl) ?_
  show Goes p e below _ (T12.setTop (mkF m 73 #[.val (.int p0), .val (.int p1), .val (.long q2), .second, .val (.ref b), .unset, .unset, .unset] [(.int ((((q2.toUInt64 >>> ((48 : Int32) &&& 0x3f).toInt64.toUInt64).toInt64).toInt32).toInt8.toInt32)), (.int (6 : Int32)), (.ref b)]))
  obtain ⟨c14, Ar14, S14, H14⟩ := id V12
  obtain ⟨T14, h14, X14, e14, V14w, st14⟩ := stB XL13 hx hZ e12 Ar14 (j := (6 : Int32)) (by rw [S14]; exact (by decide)) (g := (mkF m 73 #[.val (.int p0), .val (.int p1), .val (.long q2), .second, .val (.ref b), .unset, .unset, .unset] [(.int ((((q2.toUInt64 >>> ((48 : Int32) &&& 0x3f).toInt64.toUInt64).toInt64).toInt32).toInt8.toInt32)), (.int (6 : Int32)), (.ref b)])) rfl rfl (hb hby at_73)
  have W14 : Wr h12 h14 b (6 : Int32).toNatClampNeg (.int ((((q2.toUInt64 >>> ((48 : Int32) &&& 0x3f).toInt64.toUInt64).toInt64).toInt32).toInt8.toInt32)) := own_w V14w
  have V14 := own_ab.wr V12 W14
  have Z14 : n0 ≤ h14.size := Nat.le_trans Z12 (Nat.le_of_eq W14.size.symm)
  have N14 := Fr.snoc X14 NL13 g_b
  refine Goes.go st14 ?_
  obtain ⟨LL15, XL15, NL15⟩ : ∃ LL : List Loc, Stand p l e room_1 s m #[(.int p0), (.int p1), (.long q2)] below meth c T14 LL 1 8 ∧ Fr n0 LL := ⟨_, X14, N14⟩
  show Goes p e below _ (T14.setTop (mkF m 74 #[.val (.int p0), .val (.int p1), .val (.long q2), .second, .val (.ref b), .unset, .unset, .unset] []))
  refine Goes.go (fun t => XS.aload XL15.here hx rfl (hb hby at_74) rfl rfl ) ?_
  show Goes p e below _ (T14.setTop (mkF m 76 #[.val (.int p0), .val (.int p1), .val (.long q2), .second, .val (.ref b), .unset, .unset, .unset] [(.ref b)]))
  refine Goes.go (fun t => XS.bipush XL15.here hx rfl (hb hby at_76)) ?_
  show Goes p e below _ (T14.setTop (mkF m 78 #[.val (.int p0), .val (.int p1), .val (.long q2), .second, .val (.ref b), .unset, .unset, .unset] [(.int (7 : Int32)), (.ref b)]))
  refine Goes.go (fun t => XS.lloadN XL15.here hx rfl (hb hby at_78) rfl ) ?_
  show Goes p e below _ (T14.setTop (mkF m 79 #[.val (.int p0), .val (.int p1), .val (.long q2), .second, .val (.ref b), .unset, .unset, .unset] [(.long q2), (.int (7 : Int32)), (.ref b)]))
  refine Goes.go (fun t => XS.bipush XL15.here hx rfl (hb hby at_79)) ?_
  show Goes p e below _ (T14.setTop (mkF m 81 #[.val (.int p0), .val (.int p1), .val (.long q2), .second, .val (.ref b), .unset, .unset, .unset] [(.int (56 : Int32)), (.long q2), (.int (7 : Int32)), (.ref b)]))
  refine Goes.go (fun t => XS.lushr XL15.here hx rfl (hb hby at_81) rfl) ?_
  show Goes p e below _ (T14.setTop (mkF m 82 #[.val (.int p0), .val (.int p1), .val (.long q2), .second, .val (.ref b), .unset, .unset, .unset] [(.long ((q2.toUInt64 >>> ((56 : Int32) &&& 0x3f).toInt64.toUInt64).toInt64)), (.int (7 : Int32)), (.ref b)]))
  refine Goes.go (fun t => XS.l2i XL15.here hx rfl (hb hby at_82) rfl) ?_
  show Goes p e below _ (T14.setTop (mkF m 83 #[.val (.int p0), .val (.int p1), .val (.long q2), .second, .val (.ref b), .unset, .unset, .unset] [(.int (((q2.toUInt64 >>> ((56 : Int32) &&& 0x3f).toInt64.toUInt64).toInt64).toInt32)), (.int (7 : Int32)), (.ref b)]))
  refine Goes.go (fun t => XS.i2b XL15.here hx rfl (hb hby at_83) rfl) ?_
  show Goes p e below _ (T14.setTop (mkF m 84 #[.val (.int p0), .val (.int p1), .val (.long q2), .second, .val (.ref b), .unset, .unset, .unset] [(.int ((((q2.toUInt64 >>> ((56 : Int32) &&& 0x3f).toInt64.toUInt64).toInt64).toInt32).toInt8.toInt32)), (.int (7 : Int32)), (.ref b)]))
  obtain ⟨c16, Ar16, S16, H16⟩ := id V14
  obtain ⟨T16, h16, X16, e16, V16w, st16⟩ := stB XL15 hx hZ e14 Ar16 (j := (7 : Int32)) (by rw [S16]; exact (by decide)) (g := (mkF m 84 #[.val (.int p0), .val (.int p1), .val (.long q2), .second, .val (.ref b), .unset, .unset, .unset] [(.int ((((q2.toUInt64 >>> ((56 : Int32) &&& 0x3f).toInt64.toUInt64).toInt64).toInt32).toInt8.toInt32)), (.int (7 : Int32)), (.ref b)])) rfl rfl (hb hby at_84)
  have W16 : Wr h14 h16 b (7 : Int32).toNatClampNeg (.int ((((q2.toUInt64 >>> ((56 : Int32) &&& 0x3f).toInt64.toUInt64).toInt64).toInt32).toInt8.toInt32)) := own_w V16w
  have V16 := own_ab.wr V14 W16
  have Z16 : n0 ≤ h16.size := Nat.le_trans Z14 (Nat.le_of_eq W16.size.symm)
  have N16 := Fr.snoc X16 NL15 g_b
  refine Goes.go st16 ?_
  obtain ⟨LL17, XL17, NL17⟩ : ∃ LL : List Loc, Stand p l e room_1 s m #[(.int p0), (.int p1), (.long q2)] below meth c T16 LL 1 8 ∧ Fr n0 LL := ⟨_, X16, N16⟩
  show Goes p e below _ (T16.setTop (mkF m 85 #[.val (.int p0), .val (.int p1), .val (.long q2), .second, .val (.ref b), .unset, .unset, .unset] []))
  refine Goes.go (fun t => XS.iloadN XL17.here hx rfl (hb hby at_85) rfl ) ?_
  show Goes p e below _ (T16.setTop (mkF m 86 #[.val (.int p0), .val (.int p1), .val (.long q2), .second, .val (.ref b), .unset, .unset, .unset] [(.int p1)]))
  refine Goes.go (fun t => XL17.ldcI hx hown (mvT hZ (hw _ (List.mem_of_getElem? (i := 1) rfl))) rfl (hb hby at_86)) ?_
  show Goes p e below _ (T16.setTop (mkF m 88 #[.val (.int p0), .val (.int p1), .val (.long q2), .second, .val (.ref b), .unset, .unset, .unset] [(.int (2147483647 : Int32)), (.int p1)]))
  refine Goes.go (fun t => XS.iand XL17.here hx rfl (hb hby at_88) rfl) ?_
  show Goes p e below _ (T16.setTop (mkF m 89 #[.val (.int p0), .val (.int p1), .val (.long q2), .second, .val (.ref b), .unset, .unset, .unset] [(.int (p1 &&& (2147483647 : Int32)))]))
  refine Goes.go (fun t => XS.iconst XL17.here hx rfl (hb hby at_89)) ?_
  show Goes p e below _ (T16.setTop (mkF m 90 #[.val (.int p0), .val (.int p1), .val (.long q2), .second, .val (.ref b), .unset, .unset, .unset] [(.int (5 : Int32)), (.int (p1 &&& (2147483647 : Int32)))]))
  have Vf := V16.cong (own_fill q2)
  obtain ⟨ho1, ho2⟩ := own_idx p1 5 (by decide)
  refine Goes.go (fun t => iremM XL17 hx rfl (hb hby at_90) rfl (by decide)) ?_
  generalize ((p1 &&& (2147483647 : Int32)) % (5 : Int32)) = o at ho1 ho2 ⊢
  have ho2 : o.toInt < 5 := ho2
  show Goes p e below _ (T16.setTop (mkF m 91 #[.val (.int p0), .val (.int p1), .val (.long q2), .second, .val (.ref b), .unset, .unset, .unset] [(.int o)]))
  refine Goes.go (fun t => XS.istore XL17.here hx rfl (hb hby at_91) rfl (l' := #[.val (.int p0), .val (.int p1), .val (.long q2), .second, .val (.ref b), .val (.int o), .unset, .unset]) rfl) ?_
  show Goes p e below _ (T16.setTop (mkF m 93 #[.val (.int p0), .val (.int p1), .val (.long q2), .second, .val (.ref b), .val (.int o), .unset, .unset] []))
  refine Goes.go (fun t => XS.aload XL17.here hx rfl (hb hby at_93) rfl rfl ) ?_
  show Goes p e below _ (T16.setTop (mkF m 95 #[.val (.int p0), .val (.int p1), .val (.long q2), .second, .val (.ref b), .val (.int o), .unset, .unset] [(.ref b)]))
  refine Goes.go (fun t => XS.iload XL17.here hx rfl (hb hby at_95) rfl ) ?_
  show Goes p e below _ (T16.setTop (mkF m 97 #[.val (.int p0), .val (.int p1), .val (.long q2), .second, .val (.ref b), .val (.int o), .unset, .unset] [(.int o), (.ref b)]))
  refine Goes.go (fun t => XS.iloadN XL17.here hx rfl (hb hby at_97) rfl ) ?_
  show Goes p e below _ (T16.setTop (mkF m 98 #[.val (.int p0), .val (.int p1), .val (.long q2), .second, .val (.ref b), .val (.int o), .unset, .unset] [(.int p0), (.int o), (.ref b)]))
  obtain ⟨_, _, ⟨T18, L18, k18, n18⟩, -, X18, ⟨Lc18, hQ18, l18, y18, z18⟩, st18⟩ := Jvm.LawKit.callS XL17 hx (y := (⟨"com/example/halyard/halyard/BinaryEncoder", "putInt32", "([BII)V"⟩ : MethodName)) hown (mvT hZ (hw _ (List.mem_of_getElem? (i := 2) rfl))) (mvT hZ (hw _ (List.mem_of_getElem? (i := 3) rfl))) (mvT hZ (hw _ (List.mem_of_getElem? (i := 4) rfl))) (mvT hZ (hw _ (List.mem_of_getElem? (i := 5) rfl))) (by decide) (backOf (W := 0) (rmPI l Z a0 hw [] b o p0 (fun i => own_b q2 (Nat.toInt32 i)) h16 n0 Z16 Vf g_b ho1 ho2) hZ (hw _ (List.mem_of_getElem? (i := 5) rfl)) (hw _ (List.mem_of_getElem? (i := 4) rfl)) (by decide) (by decide)) (g := (mkF m 98 #[.val (.int p0), .val (.int p1), .val (.long q2), .second, .val (.ref b), .val (.int o), .unset, .unset] [(.int p0), (.int o), (.ref b)])) rfl (by rw [hml]; rfl) (argsL := [(.ref b), (.int o), (.int p0)]) (rest := []) (lenOf pd0_0 rfl) rfl (by show 2 * 0 + _ ≤ _; exact Nat.le_of_eq rfl) (hb hby at_98) (fun _ _ => ⟨rfl, e16, (by decide : 1 + 0 ≤ _), (by decide : 8 + 0 ≤ _)⟩)
  dsimp only [Pt.U, Pt.locs, Pt.cells, Pt.slots] at X18 l18 y18 z18 st18 hQ18
  subst l18 y18 z18
  obtain ⟨rfl, N18q, K18, V18⟩ := hQ18
  have N18 := Fr.app NL17 N18q
  refine Goes.go st18 ?_
  have Z18 : n0 ≤ T18.heap.size := Nat.le_trans Z16 K18.1
  show Goes p e below _ (T18.setTop (mkF m 101 #[.val (.int p0), .val (.int p1), .val (.long q2), .second, .val (.ref b), .val (.int o), .unset, .unset] []))
  refine Goes.go (fun t => XS.aload X18.here hx rfl (hb hby at_101) rfl rfl ) ?_
  show Goes p e below _ (T18.setTop (mkF m 103 #[.val (.int p0), .val (.int p1), .val (.long q2), .second, .val (.ref b), .val (.int o), .unset, .unset] [(.ref b)]))
  refine Goes.go (fun t => XS.iload X18.here hx rfl (hb hby at_103) rfl ) ?_
  show Goes p e below _ (T18.setTop (mkF m 105 #[.val (.int p0), .val (.int p1), .val (.long q2), .second, .val (.ref b), .val (.int o), .unset, .unset] [(.int o), (.ref b)]))
  obtain ⟨c19, Ar19, S19, H19⟩ := id V18
  have hin19 : ¬ (o < 0 ∨ c19.slots.size ≤ o.toNatClampNeg) := by rw [S19]; exact own_in8 ho1 ho2
  have hat19 : c19.slots[o.toNatClampNeg]? = some (.int (own_y0 p0)) := (H19 o.toNatClampNeg (by rw [← S19]; exact Nat.lt_of_not_le fun q => hin19 (Or.inr q))).trans (congrArg (fun z => some (Value.int z)) (own_got0 _ p0 ho1 ho2))
  refine Goes.go (X18.baloadBytes hx (j := o) (v := .int (own_y0 p0)) Ar19.1 (State.isArrayOf_alike hZ.alike Ar19.2.1) Ar19.2.2 hin19 hat19 (g := (mkF m 105 #[.val (.int p0), .val (.int p1), .val (.long q2), .second, .val (.ref b), .val (.int o), .unset, .unset] [(.int o), (.ref b)])) rfl rfl (hb hby at_105)) ?_
  show Goes p e below _ (T18.setTop (mkF m 106 #[.val (.int p0), .val (.int p1), .val (.long q2), .second, .val (.ref b), .val (.int o), .unset, .unset] [(.int (own_y0 p0))]))
  refine Goes.go (fun t => XS.sipush X18.here hx rfl (hb hby at_106)) ?_
  show Goes p e below _ (T18.setTop (mkF m 109 #[.val (.int p0), .val (.int p1), .val (.long q2), .second, .val (.ref b), .val (.int o), .unset, .unset] [(.int (255 : Int32)), (.int (own_y0 p0))]))
  refine Goes.go (fun t => XS.iand X18.here hx rfl (hb hby at_109) rfl) ?_
  show Goes p e below _ (T18.setTop (mkF m 110 #[.val (.int p0), .val (.int p1), .val (.long q2), .second, .val (.ref b), .val (.int o), .unset, .unset] [(.int ((own_y0 p0) &&& (255 : Int32)))]))
  refine Goes.go (fun t => XS.bipush X18.here hx rfl (hb hby at_110)) ?_
  show Goes p e below _ (T18.setTop (mkF m 112 #[.val (.int p0), .val (.int p1), .val (.long q2), .second, .val (.ref b), .val (.int o), .unset, .unset] [(.int (24 : Int32)), (.int ((own_y0 p0) &&& (255 : Int32)))]))
  refine Goes.go (fun t => XS.ishl X18.here hx rfl (hb hby at_112) rfl) ?_
  show Goes p e below _ (T18.setTop (mkF m 113 #[.val (.int p0), .val (.int p1), .val (.long q2), .second, .val (.ref b), .val (.int o), .unset, .unset] [(.int (((own_y0 p0) &&& (255 : Int32)) <<< ((24 : Int32) &&& 31)))]))
  refine Goes.go (fun t => XS.aload X18.here hx rfl (hb hby at_113) rfl rfl ) ?_
  show Goes p e below _ (T18.setTop (mkF m 115 #[.val (.int p0), .val (.int p1), .val (.long q2), .second, .val (.ref b), .val (.int o), .unset, .unset] [(.ref b), (.int (((own_y0 p0) &&& (255 : Int32)) <<< ((24 : Int32) &&& 31)))]))
  refine Goes.go (fun t => XS.iload X18.here hx rfl (hb hby at_115) rfl ) ?_
  show Goes p e below _ (T18.setTop (mkF m 117 #[.val (.int p0), .val (.int p1), .val (.long q2), .second, .val (.ref b), .val (.int o), .unset, .unset] [(.int o), (.ref b), (.int (((own_y0 p0) &&& (255 : Int32)) <<< ((24 : Int32) &&& 31)))]))
  refine Goes.go (fun t => XS.iconst X18.here hx rfl (hb hby at_117)) ?_
  show Goes p e below _ (T18.setTop (mkF m 118 #[.val (.int p0), .val (.int p1), .val (.long q2), .second, .val (.ref b), .val (.int o), .unset, .unset] [(.int (1 : Int32)), (.int o), (.ref b), (.int (((own_y0 p0) &&& (255 : Int32)) <<< ((24 : Int32) &&& 31)))]))
  refine Goes.go (fun t => XS.iadd X18.here hx rfl (hb hby at_118) rfl) ?_
  show Goes p e below _ (T18.setTop (mkF m 119 #[.val (.int p0), .val (.int p1), .val (.long q2), .second, .val (.ref b), .val (.int o), .unset, .unset] [(.int (o + (1 : Int32))), (.ref b), (.int (((own_y0 p0) &&& (255 : Int32)) <<< ((24 : Int32) &&& 31)))]))
  obtain ⟨c20, Ar20, S20, H20⟩ := id V18
  have hin20 : ¬ ((o + (1 : Int32)) < 0 ∨ c20.slots.size ≤ (o + (1 : Int32)).toNatClampNeg) := by rw [S20]; exact own_inK ho1 ho2 (by decide) (by decide)
  have hat20 : c20.slots[(o + (1 : Int32)).toNatClampNeg]? = some (.int (own_y1 p0)) := (H20 (o + (1 : Int32)).toNatClampNeg (by rw [← S20]; exact Nat.lt_of_not_le fun q => hin20 (Or.inr q))).trans (congrArg (fun z => some (Value.int z)) (own_got1 _ p0 ho1 ho2))
  refine Goes.go (X18.baloadBytes hx (j := (o + (1 : Int32))) (v := .int (own_y1 p0)) Ar20.1 (State.isArrayOf_alike hZ.alike Ar20.2.1) Ar20.2.2 hin20 hat20 (g := (mkF m 119 #[.val (.int p0), .val (.int p1), .val (.long q2), .second, .val (.ref b), .val (.int o), .unset, .unset] [(.int (o + (1 : Int32))), (.ref b), (.int (((own_y0 p0) &&& (255 : Int32)) <<< ((24 : Int32) &&& 31)))])) rfl rfl (hb hby at_119)) ?_
  show Goes p e below _ (T18.setTop (mkF m 120 #[.val (.int p0), .val (.int p1), .val (.long q2), .second, .val (.ref b), .val (.int o), .unset, .unset] [(.int (own_y1 p0)), (.int (((own_y0 p0) &&& (255 : Int32)) <<< ((24 : Int32) &&& 31)))]))
  refine Goes.go (fun t => XS.sipush X18.here hx rfl (hb hby at_120)) ?_
  show Goes p e below _ (T18.setTop (mkF m 123 #[.val (.int p0), .val (.int p1), .val (.long q2), .second, .val (.ref b), .val (.int o), .unset, .unset] [(.int (255 : Int32)), (.int (own_y1 p0)), (.int (((own_y0 p0) &&& (255 : Int32)) <<< ((24 : Int32) &&& 31)))]))
  refine Goes.go (fun t => XS.iand X18.here hx rfl (hb hby at_123) rfl) ?_
  show Goes p e below _ (T18.setTop (mkF m 124 #[.val (.int p0), .val (.int p1), .val (.long q2), .second, .val (.ref b), .val (.int o), .unset, .unset] [(.int ((own_y1 p0) &&& (255 : Int32))), (.int (((own_y0 p0) &&& (255 : Int32)) <<< ((24 : Int32) &&& 31)))]))
  refine Goes.go (fun t => XS.bipush X18.here hx rfl (hb hby at_124)) ?_
  show Goes p e below _ (T18.setTop (mkF m 126 #[.val (.int p0), .val (.int p1), .val (.long q2), .second, .val (.ref b), .val (.int o), .unset, .unset] [(.int (16 : Int32)), (.int ((own_y1 p0) &&& (255 : Int32))), (.int (((own_y0 p0) &&& (255 : Int32)) <<< ((24 : Int32) &&& 31)))]))
  refine Goes.go (fun t => XS.ishl X18.here hx rfl (hb hby at_126) rfl) ?_
  show Goes p e below _ (T18.setTop (mkF m 127 #[.val (.int p0), .val (.int p1), .val (.long q2), .second, .val (.ref b), .val (.int o), .unset, .unset] [(.int (((own_y1 p0) &&& (255 : Int32)) <<< ((16 : Int32) &&& 31))), (.int (((own_y0 p0) &&& (255 : Int32)) <<< ((24 : Int32) &&& 31)))]))
  refine Goes.go (fun t => XS.ior X18.here hx rfl (hb hby at_127) rfl) ?_
  show Goes p e below _ (T18.setTop (mkF m 128 #[.val (.int p0), .val (.int p1), .val (.long q2), .second, .val (.ref b), .val (.int o), .unset, .unset] [(.int ((((own_y0 p0) &&& (255 : Int32)) <<< ((24 : Int32) &&& 31)) ||| (((own_y1 p0) &&& (255 : Int32)) <<< ((16 : Int32) &&& 31))))]))
  refine Goes.go (fun t => XS.aload X18.here hx rfl (hb hby at_128) rfl rfl ) ?_
  show Goes p e below _ (T18.setTop (mkF m 130 #[.val (.int p0), .val (.int p1), .val (.long q2), .second, .val (.ref b), .val (.int o), .unset, .unset] [(.ref b), (.int ((((own_y0 p0) &&& (255 : Int32)) <<< ((24 : Int32) &&& 31)) ||| (((own_y1 p0) &&& (255 : Int32)) <<< ((16 : Int32) &&& 31))))]))
  refine Goes.go (fun t => XS.iload X18.here hx rfl (hb hby at_130) rfl ) ?_
  show Goes p e below _ (T18.setTop (mkF m 132 #[.val (.int p0), .val (.int p1), .val (.long q2), .second, .val (.ref b), .val (.int o), .unset, .unset] [(.int o), (.ref b), (.int ((((own_y0 p0) &&& (255 : Int32)) <<< ((24 : Int32) &&& 31)) ||| (((own_y1 p0) &&& (255 : Int32)) <<< ((16 : Int32) &&& 31))))]))
  refine Goes.go (fun t => XS.iconst X18.here hx rfl (hb hby at_132)) ?_
  show Goes p e below _ (T18.setTop (mkF m 133 #[.val (.int p0), .val (.int p1), .val (.long q2), .second, .val (.ref b), .val (.int o), .unset, .unset] [(.int (2 : Int32)), (.int o), (.ref b), (.int ((((own_y0 p0) &&& (255 : Int32)) <<< ((24 : Int32) &&& 31)) ||| (((own_y1 p0) &&& (255 : Int32)) <<< ((16 : Int32) &&& 31))))]))
  refine Goes.go (fun t => XS.iadd X18.here hx rfl (hb hby at_133) rfl) ?_
  show Goes p e below _ (T18.setTop (mkF m 134 #[.val (.int p0), .val (.int p1), .val (.long q2), .second, .val (.ref b), .val (.int o), .unset, .unset] [(.int (o + (2 : Int32))), (.ref b), (.int ((((own_y0 p0) &&& (255 : Int32)) <<< ((24 : Int32) &&& 31)) ||| (((own_y1 p0) &&& (255 : Int32)) <<< ((16 : Int32) &&& 31))))]))
  obtain ⟨c21, Ar21, S21, H21⟩ := id V18
  have hin21 : ¬ ((o + (2 : Int32)) < 0 ∨ c21.slots.size ≤ (o + (2 : Int32)).toNatClampNeg) := by rw [S21]; exact own_inK ho1 ho2 (by decide) (by decide)
  have hat21 : c21.slots[(o + (2 : Int32)).toNatClampNeg]? = some (.int (own_y2 p0)) := (H21 (o + (2 : Int32)).toNatClampNeg (by rw [← S21]; exact Nat.lt_of_not_le fun q => hin21 (Or.inr q))).trans (congrArg (fun z => some (Value.int z)) (own_got2 _ p0 ho1 ho2))
  refine Goes.go (X18.baloadBytes hx (j := (o + (2 : Int32))) (v := .int (own_y2 p0)) Ar21.1 (State.isArrayOf_alike hZ.alike Ar21.2.1) Ar21.2.2 hin21 hat21 (g := (mkF m 134 #[.val (.int p0), .val (.int p1), .val (.long q2), .second, .val (.ref b), .val (.int o), .unset, .unset] [(.int (o + (2 : Int32))), (.ref b), (.int ((((own_y0 p0) &&& (255 : Int32)) <<< ((24 : Int32) &&& 31)) ||| (((own_y1 p0) &&& (255 : Int32)) <<< ((16 : Int32) &&& 31))))])) rfl rfl (hb hby at_134)) ?_
  show Goes p e below _ (T18.setTop (mkF m 135 #[.val (.int p0), .val (.int p1), .val (.long q2), .second, .val (.ref b), .val (.int o), .unset, .unset] [(.int (own_y2 p0)), (.int ((((own_y0 p0) &&& (255 : Int32)) <<< ((24 : Int32) &&& 31)) ||| (((own_y1 p0) &&& (255 : Int32)) <<< ((16 : Int32) &&& 31))))]))
  refine Goes.go (fun t => XS.sipush X18.here hx rfl (hb hby at_135)) ?_
  show Goes p e below _ (T18.setTop (mkF m 138 #[.val (.int p0), .val (.int p1), .val (.long q2), .second, .val (.ref b), .val (.int o), .unset, .unset] [(.int (255 : Int32)), (.int (own_y2 p0)), (.int ((((own_y0 p0) &&& (255 : Int32)) <<< ((24 : Int32) &&& 31)) ||| (((own_y1 p0) &&& (255 : Int32)) <<< ((16 : Int32) &&& 31))))]))
  refine Goes.go (fun t => XS.iand X18.here hx rfl (hb hby at_138) rfl) ?_
  show Goes p e below _ (T18.setTop (mkF m 139 #[.val (.int p0), .val (.int p1), .val (.long q2), .second, .val (.ref b), .val (.int o), .unset, .unset] [(.int ((own_y2 p0) &&& (255 : Int32))), (.int ((((own_y0 p0) &&& (255 : Int32)) <<< ((24 : Int32) &&& 31)) ||| (((own_y1 p0) &&& (255 : Int32)) <<< ((16 : Int32) &&& 31))))]))
  refine Goes.go (fun t => XS.bipush X18.here hx rfl (hb hby at_139)) ?_
  show Goes p e below _ (T18.setTop (mkF m 141 #[.val (.int p0), .val (.int p1), .val (.long q2), .second, .val (.ref b), .val (.int o), .unset, .unset] [(.int (8 : Int32)), (.int ((own_y2 p0) &&& (255 : Int32))), (.int ((((own_y0 p0) &&& (255 : Int32)) <<< ((24 : Int32) &&& 31)) ||| (((own_y1 p0) &&& (255 : Int32)) <<< ((16 : Int32) &&& 31))))]))
  refine Goes.go (fun t => XS.ishl X18.here hx rfl (hb hby at_141) rfl) ?_
  show Goes p e below _ (T18.setTop (mkF m 142 #[.val (.int p0), .val (.int p1), .val (.long q2), .second, .val (.ref b), .val (.int o), .unset, .unset] [(.int (((own_y2 p0) &&& (255 : Int32)) <<< ((8 : Int32) &&& 31))), (.int ((((own_y0 p0) &&& (255 : Int32)) <<< ((24 : Int32) &&& 31)) ||| (((own_y1 p0) &&& (255 : Int32)) <<< ((16 : Int32) &&& 31))))]))
  refine Goes.go (fun t => XS.ior X18.here hx rfl (hb hby at_142) rfl) ?_
  show Goes p e below _ (T18.setTop (mkF m 143 #[.val (.int p0), .val (.int p1), .val (.long q2), .second, .val (.ref b), .val (.int o), .unset, .unset] [(.int (((((own_y0 p0) &&& (255 : Int32)) <<< ((24 : Int32) &&& 31)) ||| (((own_y1 p0) &&& (255 : Int32)) <<< ((16 : Int32) &&& 31))) ||| (((own_y2 p0) &&& (255 : Int32)) <<< ((8 : Int32) &&& 31))))]))
  refine Goes.go (fun t => XS.aload X18.here hx rfl (hb hby at_143) rfl rfl ) ?_
  show Goes p e below _ (T18.setTop (mkF m 145 #[.val (.int p0), .val (.int p1), .val (.long q2), .second, .val (.ref b), .val (.int o), .unset, .unset] [(.ref b), (.int (((((own_y0 p0) &&& (255 : Int32)) <<< ((24 : Int32) &&& 31)) ||| (((own_y1 p0) &&& (255 : Int32)) <<< ((16 : Int32) &&& 31))) ||| (((own_y2 p0) &&& (255 : Int32)) <<< ((8 : Int32) &&& 31))))]))
  refine Goes.go (fun t => XS.iload X18.here hx rfl (hb hby at_145) rfl ) ?_
  show Goes p e below _ (T18.setTop (mkF m 147 #[.val (.int p0), .val (.int p1), .val (.long q2), .second, .val (.ref b), .val (.int o), .unset, .unset] [(.int o), (.ref b), (.int (((((own_y0 p0) &&& (255 : Int32)) <<< ((24 : Int32) &&& 31)) ||| (((own_y1 p0) &&& (255 : Int32)) <<< ((16 : Int32) &&& 31))) ||| (((own_y2 p0) &&& (255 : Int32)) <<< ((8 : Int32) &&& 31))))]))
  refine Goes.go (fun t => XS.iconst X18.here hx rfl (hb hby at_147)) ?_
  show Goes p e below _ (T18.setTop (mkF m 148 #[.val (.int p0), .val (.int p1), .val (.long q2), .second, .val (.ref b), .val (.int o), .unset, .unset] [(.int (3 : Int32)), (.int o), (.ref b), (.int (((((own_y0 p0) &&& (255 : Int32)) <<< ((24 : Int32) &&& 31)) ||| (((own_y1 p0) &&& (255 : Int32)) <<< ((16 : Int32) &&& 31))) ||| (((own_y2 p0) &&& (255 : Int32)) <<< ((8 : Int32) &&& 31))))]))
  refine Goes.go (fun t => XS.iadd X18.here hx rfl (hb hby at_148) rfl) ?_
  show Goes p e below _ (T18.setTop (mkF m 149 #[.val (.int p0), .val (.int p1), .val (.long q2), .second, .val (.ref b), .val (.int o), .unset, .unset] [(.int (o + (3 : Int32))), (.ref b), (.int (((((own_y0 p0) &&& (255 : Int32)) <<< ((24 : Int32) &&& 31)) ||| (((own_y1 p0) &&& (255 : Int32)) <<< ((16 : Int32) &&& 31))) ||| (((own_y2 p0) &&& (255 : Int32)) <<< ((8 : Int32) &&& 31))))]))
  obtain ⟨c22, Ar22, S22, H22⟩ := id V18
  have hin22 : ¬ ((o + (3 : Int32)) < 0 ∨ c22.slots.size ≤ (o + (3 : Int32)).toNatClampNeg) := by rw [S22]; exact own_inK ho1 ho2 (by decide) (by decide)
  have hat22 : c22.slots[(o + (3 : Int32)).toNatClampNeg]? = some (.int (own_y3 p0)) := (H22 (o + (3 : Int32)).toNatClampNeg (by rw [← S22]; exact Nat.lt_of_not_le fun q => hin22 (Or.inr q))).trans (congrArg (fun z => some (Value.int z)) (own_got3 _ p0 ho1 ho2))
  refine Goes.go (X18.baloadBytes hx (j := (o + (3 : Int32))) (v := .int (own_y3 p0)) Ar22.1 (State.isArrayOf_alike hZ.alike Ar22.2.1) Ar22.2.2 hin22 hat22 (g := (mkF m 149 #[.val (.int p0), .val (.int p1), .val (.long q2), .second, .val (.ref b), .val (.int o), .unset, .unset] [(.int (o + (3 : Int32))), (.ref b), (.int (((((own_y0 p0) &&& (255 : Int32)) <<< ((24 : Int32) &&& 31)) ||| (((own_y1 p0) &&& (255 : Int32)) <<< ((16 : Int32) &&& 31))) ||| (((own_y2 p0) &&& (255 : Int32)) <<< ((8 : Int32) &&& 31))))])) rfl rfl (hb hby at_149)) ?_
  show Goes p e below _ (T18.setTop (mkF m 150 #[.val (.int p0), .val (.int p1), .val (.long q2), .second, .val (.ref b), .val (.int o), .unset, .unset] [(.int (own_y3 p0)), (.int (((((own_y0 p0) &&& (255 : Int32)) <<< ((24 : Int32) &&& 31)) ||| (((own_y1 p0) &&& (255 : Int32)) <<< ((16 : Int32) &&& 31))) ||| (((own_y2 p0) &&& (255 : Int32)) <<< ((8 : Int32) &&& 31))))]))
  refine Goes.go (fun t => XS.sipush X18.here hx rfl (hb hby at_150)) ?_
  show Goes p e below _ (T18.setTop (mkF m 153 #[.val (.int p0), .val (.int p1), .val (.long q2), .second, .val (.ref b), .val (.int o), .unset, .unset] [(.int (255 : Int32)), (.int (own_y3 p0)), (.int (((((own_y0 p0) &&& (255 : Int32)) <<< ((24 : Int32) &&& 31)) ||| (((own_y1 p0) &&& (255 : Int32)) <<< ((16 : Int32) &&& 31))) ||| (((own_y2 p0) &&& (255 : Int32)) <<< ((8 : Int32) &&& 31))))]))
  refine Goes.go (fun t => XS.iand X18.here hx rfl (hb hby at_153) rfl) ?_
  show Goes p e below _ (T18.setTop (mkF m 154 #[.val (.int p0), .val (.int p1), .val (.long q2), .second, .val (.ref b), .val (.int o), .unset, .unset] [(.int ((own_y3 p0) &&& (255 : Int32))), (.int (((((own_y0 p0) &&& (255 : Int32)) <<< ((24 : Int32) &&& 31)) ||| (((own_y1 p0) &&& (255 : Int32)) <<< ((16 : Int32) &&& 31))) ||| (((own_y2 p0) &&& (255 : Int32)) <<< ((8 : Int32) &&& 31))))]))
  refine Goes.go (fun t => XS.ior X18.here hx rfl (hb hby at_154) rfl) ?_
  show Goes p e below _ (T18.setTop (mkF m 155 #[.val (.int p0), .val (.int p1), .val (.long q2), .second, .val (.ref b), .val (.int o), .unset, .unset] [(.int ((((((own_y0 p0) &&& (255 : Int32)) <<< ((24 : Int32) &&& 31)) ||| (((own_y1 p0) &&& (255 : Int32)) <<< ((16 : Int32) &&& 31))) ||| (((own_y2 p0) &&& (255 : Int32)) <<< ((8 : Int32) &&& 31))) ||| ((own_y3 p0) &&& (255 : Int32))))]))
  refine Goes.go (fun t => XS.istore X18.here hx rfl (hb hby at_155) rfl (l' := #[.val (.int p0), .val (.int p1), .val (.long q2), .second, .val (.ref b), .val (.int o), .val (.int ((((((own_y0 p0) &&& (255 : Int32)) <<< ((24 : Int32) &&& 31)) ||| (((own_y1 p0) &&& (255 : Int32)) <<< ((16 : Int32) &&& 31))) ||| (((own_y2 p0) &&& (255 : Int32)) <<< ((8 : Int32) &&& 31))) ||| ((own_y3 p0) &&& (255 : Int32)))), .unset]) rfl) ?_
  show Goes p e below _ (T18.setTop (mkF m 157 #[.val (.int p0), .val (.int p1), .val (.long q2), .second, .val (.ref b), .val (.int o), .val (.int ((((((own_y0 p0) &&& (255 : Int32)) <<< ((24 : Int32) &&& 31)) ||| (((own_y1 p0) &&& (255 : Int32)) <<< ((16 : Int32) &&& 31))) ||| (((own_y2 p0) &&& (255 : Int32)) <<< ((8 : Int32) &&& 31))) ||| ((own_y3 p0) &&& (255 : Int32)))), .unset] []))
  refine Goes.go (fun t => XS.aload X18.here hx rfl (hb hby at_157) rfl rfl ) ?_
  show Goes p e below _ (T18.setTop (mkF m 159 #[.val (.int p0), .val (.int p1), .val (.long q2), .second, .val (.ref b), .val (.int o), .val (.int ((((((own_y0 p0) &&& (255 : Int32)) <<< ((24 : Int32) &&& 31)) ||| (((own_y1 p0) &&& (255 : Int32)) <<< ((16 : Int32) &&& 31))) ||| (((own_y2 p0) &&& (255 : Int32)) <<< ((8 : Int32) &&& 31))) ||| ((own_y3 p0) &&& (255 : Int32)))), .unset] [(.ref b)]))
  refine Goes.go (fun t => XS.iconst X18.here hx rfl (hb hby at_159)) ?_
  show Goes p e below _ (T18.setTop (mkF m 160 #[.val (.int p0), .val (.int p1), .val (.long q2), .second, .val (.ref b), .val (.int o), .val (.int ((((((own_y0 p0) &&& (255 : Int32)) <<< ((24 : Int32) &&& 31)) ||| (((own_y1 p0) &&& (255 : Int32)) <<< ((16 : Int32) &&& 31))) ||| (((own_y2 p0) &&& (255 : Int32)) <<< ((8 : Int32) &&& 31))) ||| ((own_y3 p0) &&& (255 : Int32)))), .unset] [(.int (0 : Int32)), (.ref b)]))
  refine Goes.go (fun t => XS.iload X18.here hx rfl (hb hby at_160) rfl ) ?_
  show Goes p e below _ (T18.setTop (mkF m 162 #[.val (.int p0), .val (.int p1), .val (.long q2), .second, .val (.ref b), .val (.int o), .val (.int ((((((own_y0 p0) &&& (255 : Int32)) <<< ((24 : Int32) &&& 31)) ||| (((own_y1 p0) &&& (255 : Int32)) <<< ((16 : Int32) &&& 31))) ||| (((own_y2 p0) &&& (255 : Int32)) <<< ((8 : Int32) &&& 31))) ||| ((own_y3 p0) &&& (255 : Int32)))), .unset] [(.int o), (.int (0 : Int32)), (.ref b)]))
  refine Goes.go (fun t => XS.lloadN X18.here hx rfl (hb hby at_162) rfl ) ?_
  show Goes p e below _ (T18.setTop (mkF m 163 #[.val (.int p0), .val (.int p1), .val (.long q2), .second, .val (.ref b), .val (.int o), .val (.int ((((((own_y0 p0) &&& (255 : Int32)) <<< ((24 : Int32) &&& 31)) ||| (((own_y1 p0) &&& (255 : Int32)) <<< ((16 : Int32) &&& 31))) ||| (((own_y2 p0) &&& (255 : Int32)) <<< ((8 : Int32) &&& 31))) ||| ((own_y3 p0) &&& (255 : Int32)))), .unset] [(.long q2), (.int o), (.int (0 : Int32)), (.ref b)]))
  obtain ⟨_, _, ⟨T23, L23, k23, n23⟩, -, X23, ⟨Lc23, hQ23, l23, y23, z23⟩, st23⟩ := Jvm.LawKit.callS X18 hx (y := (⟨"com/example/halyard/halyard/BinaryEncoderPutInt32PinLaw", "untouched", "([BIIJ)Z"⟩ : MethodName)) hown (mvT hZ (hw _ (List.mem_of_getElem? (i := 6) rfl))) (mvT hZ (hw _ (List.mem_of_getElem? (i := 7) rfl))) (mvT hZ (hw _ (List.mem_of_getElem? (i := 8) rfl))) (mvT hZ (hw _ (List.mem_of_getElem? (i := 9) rfl))) (by decide) (backOf (W := 0) (rmUN l Z a0 hw [] b (0 : Int32) o q2 (own_put (fun i => own_b q2 (Nat.toInt32 i)) o.toNatClampNeg p0) T18.heap n0 Z18 V18 (by decide) (by decide) (own_kept q2 p0 ho1 ho2 (by decide) (by decide))) hZ (hw _ (List.mem_of_getElem? (i := 9) rfl)) (hw _ (List.mem_of_getElem? (i := 8) rfl)) (by decide) (by decide)) (g := (mkF m 163 #[.val (.int p0), .val (.int p1), .val (.long q2), .second, .val (.ref b), .val (.int o), .val (.int ((((((own_y0 p0) &&& (255 : Int32)) <<< ((24 : Int32) &&& 31)) ||| (((own_y1 p0) &&& (255 : Int32)) <<< ((16 : Int32) &&& 31))) ||| (((own_y2 p0) &&& (255 : Int32)) <<< ((8 : Int32) &&& 31))) ||| ((own_y3 p0) &&& (255 : Int32)))), .unset] [(.long q2), (.int o), (.int (0 : Int32)), (.ref b)])) rfl (by rw [hml]; rfl) (argsL := [(.ref b), (.int (0 : Int32)), (.int o), (.long q2)]) (rest := []) (lenOf pd0_1 rfl) rfl (by show 2 * 0 + _ ≤ _; exact Nat.le_of_eq rfl) (hb hby at_163) (fun _ _ => ⟨rfl, rfl, (by decide : 1 + 0 ≤ _), (by decide : 8 + 0 ≤ _)⟩)
  dsimp only [Pt.U, Pt.locs, Pt.cells, Pt.slots] at X23 l23 y23 z23 st23 hQ23
  subst l23 y23 z23
  obtain ⟨rfl, N23q, e23q⟩ := hQ23
  have N23 := Fr.app N18 N23q
  refine Goes.go st23 ?_
  have Z23 : n0 ≤ T23.heap.size := by rw [e23q]; exact Z18
  have V23 : own_ab Z T23.heap b (own_put (fun i => own_b q2 (Nat.toInt32 i)) o.toNatClampNeg p0) := by rw [e23q]; exact V18
  show Goes p e below _ (T23.setTop (mkF m 166 #[.val (.int p0), .val (.int p1), .val (.long q2), .second, .val (.ref b), .val (.int o), .val (.int ((((((own_y0 p0) &&& (255 : Int32)) <<< ((24 : Int32) &&& 31)) ||| (((own_y1 p0) &&& (255 : Int32)) <<< ((16 : Int32) &&& 31))) ||| (((own_y2 p0) &&& (255 : Int32)) <<< ((8 : Int32) &&& 31))) ||| ((own_y3 p0) &&& (255 : Int32)))), .unset] [(.int (1 : Int32))]))
  refine Goes.go (fun t => XS.ifNo X23.here hx rfl (hb hby at_166) rfl (Jvm.Free.XT.i0_eq_f (by decide))) ?_
  show Goes p e below _ (T23.setTop (mkF m 169 #[.val (.int p0), .val (.int p1), .val (.long q2), .second, .val (.ref b), .val (.int o), .val (.int ((((((own_y0 p0) &&& (255 : Int32)) <<< ((24 : Int32) &&& 31)) ||| (((own_y1 p0) &&& (255 : Int32)) <<< ((16 : Int32) &&& 31))) ||| (((own_y2 p0) &&& (255 : Int32)) <<< ((8 : Int32) &&& 31))) ||| ((own_y3 p0) &&& (255 : Int32)))), .unset] []))
  refine Goes.go (fun t => XS.aload X23.here hx rfl (hb hby at_169) rfl rfl ) ?_
  show Goes p e below _ (T23.setTop (mkF m 171 #[.val (.int p0), .val (.int p1), .val (.long q2), .second, .val (.ref b), .val (.int o), .val (.int ((((((own_y0 p0) &&& (255 : Int32)) <<< ((24 : Int32) &&& 31)) ||| (((own_y1 p0) &&& (255 : Int32)) <<< ((16 : Int32) &&& 31))) ||| (((own_y2 p0) &&& (255 : Int32)) <<< ((8 : Int32) &&& 31))) ||| ((own_y3 p0) &&& (255 : Int32)))), .unset] [(.ref b)]))
  refine Goes.go (fun t => XS.iconst X23.here hx rfl (hb hby at_171)) ?_
  show Goes p e below _ (T23.setTop (mkF m 172 #[.val (.int p0), .val (.int p1), .val (.long q2), .second, .val (.ref b), .val (.int o), .val (.int ((((((own_y0 p0) &&& (255 : Int32)) <<< ((24 : Int32) &&& 31)) ||| (((own_y1 p0) &&& (255 : Int32)) <<< ((16 : Int32) &&& 31))) ||| (((own_y2 p0) &&& (255 : Int32)) <<< ((8 : Int32) &&& 31))) ||| ((own_y3 p0) &&& (255 : Int32)))), .unset] [(.int (1 : Int32)), (.ref b)]))
  refine Goes.go (fun t => XS.iload X23.here hx rfl (hb hby at_172) rfl ) ?_
  show Goes p e below _ (T23.setTop (mkF m 174 #[.val (.int p0), .val (.int p1), .val (.long q2), .second, .val (.ref b), .val (.int o), .val (.int ((((((own_y0 p0) &&& (255 : Int32)) <<< ((24 : Int32) &&& 31)) ||| (((own_y1 p0) &&& (255 : Int32)) <<< ((16 : Int32) &&& 31))) ||| (((own_y2 p0) &&& (255 : Int32)) <<< ((8 : Int32) &&& 31))) ||| ((own_y3 p0) &&& (255 : Int32)))), .unset] [(.int o), (.int (1 : Int32)), (.ref b)]))
  refine Goes.go (fun t => XS.lloadN X23.here hx rfl (hb hby at_174) rfl ) ?_
  show Goes p e below _ (T23.setTop (mkF m 175 #[.val (.int p0), .val (.int p1), .val (.long q2), .second, .val (.ref b), .val (.int o), .val (.int ((((((own_y0 p0) &&& (255 : Int32)) <<< ((24 : Int32) &&& 31)) ||| (((own_y1 p0) &&& (255 : Int32)) <<< ((16 : Int32) &&& 31))) ||| (((own_y2 p0) &&& (255 : Int32)) <<< ((8 : Int32) &&& 31))) ||| ((own_y3 p0) &&& (255 : Int32)))), .unset] [(.long q2), (.int o), (.int (1 : Int32)), (.ref b)]))
  obtain ⟨_, _, ⟨T24, L24, k24, n24⟩, -, X24, ⟨Lc24, hQ24, l24, y24, z24⟩, st24⟩ := Jvm.LawKit.callS X23 hx (y := (⟨"com/example/halyard/halyard/BinaryEncoderPutInt32PinLaw", "untouched", "([BIIJ)Z"⟩ : MethodName)) hown (mvT hZ (hw _ (List.mem_of_getElem? (i := 6) rfl))) (mvT hZ (hw _ (List.mem_of_getElem? (i := 7) rfl))) (mvT hZ (hw _ (List.mem_of_getElem? (i := 8) rfl))) (mvT hZ (hw _ (List.mem_of_getElem? (i := 9) rfl))) (by decide) (backOf (W := 0) (rmUN l Z a0 hw [] b (1 : Int32) o q2 (own_put (fun i => own_b q2 (Nat.toInt32 i)) o.toNatClampNeg p0) T23.heap n0 Z23 V23 (by decide) (by decide) (own_kept q2 p0 ho1 ho2 (by decide) (by decide))) hZ (hw _ (List.mem_of_getElem? (i := 9) rfl)) (hw _ (List.mem_of_getElem? (i := 8) rfl)) (by decide) (by decide)) (g := (mkF m 175 #[.val (.int p0), .val (.int p1), .val (.long q2), .second, .val (.ref b), .val (.int o), .val (.int ((((((own_y0 p0) &&& (255 : Int32)) <<< ((24 : Int32) &&& 31)) ||| (((own_y1 p0) &&& (255 : Int32)) <<< ((16 : Int32) &&& 31))) ||| (((own_y2 p0) &&& (255 : Int32)) <<< ((8 : Int32) &&& 31))) ||| ((own_y3 p0) &&& (255 : Int32)))), .unset] [(.long q2), (.int o), (.int (1 : Int32)), (.ref b)])) rfl (by rw [hml]; rfl) (argsL := [(.ref b), (.int (1 : Int32)), (.int o), (.long q2)]) (rest := []) (lenOf pd0_1 rfl) rfl (by show 2 * 0 + _ ≤ _; exact Nat.le_of_eq rfl) (hb hby at_175) (fun _ _ => ⟨rfl, rfl, (by decide : 1 + 0 ≤ _), (by decide : 8 + 0 ≤ _)⟩)
  dsimp only [Pt.U, Pt.locs, Pt.cells, Pt.slots] at X24 l24 y24 z24 st24 hQ24
  subst l24 y24 z24
  obtain ⟨rfl, N24q, e24q⟩ := hQ24
  have N24 := Fr.app N23 N24q
  refine Goes.go st24 ?_
  have Z24 : n0 ≤ T24.heap.size := by rw [e24q]; exact Z23
  have V24 : own_ab Z T24.heap b (own_put (fun i => own_b q2 (Nat.toInt32 i)) o.toNatClampNeg p0) := by rw [e24q]; exact V23
  show Goes p e below _ (T24.setTop (mkF m 178 #[.val (.int p0), .val (.int p1), .val (.long q2), .second, .val (.ref b), .val (.int o), .val (.int ((((((own_y0 p0) &&& (255 : Int32)) <<< ((24 : Int32) &&& 31)) ||| (((own_y1 p0) &&& (255 : Int32)) <<< ((16 : Int32) &&& 31))) ||| (((own_y2 p0) &&& (255 : Int32)) <<< ((8 : Int32) &&& 31))) ||| ((own_y3 p0) &&& (255 : Int32)))), .unset] [(.int (1 : Int32))]))
  refine Goes.go (fun t => XS.ifNo X24.here hx rfl (hb hby at_178) rfl (Jvm.Free.XT.i0_eq_f (by decide))) ?_
  show Goes p e below _ (T24.setTop (mkF m 181 #[.val (.int p0), .val (.int p1), .val (.long q2), .second, .val (.ref b), .val (.int o), .val (.int ((((((own_y0 p0) &&& (255 : Int32)) <<< ((24 : Int32) &&& 31)) ||| (((own_y1 p0) &&& (255 : Int32)) <<< ((16 : Int32) &&& 31))) ||| (((own_y2 p0) &&& (255 : Int32)) <<< ((8 : Int32) &&& 31))) ||| ((own_y3 p0) &&& (255 : Int32)))), .unset] []))
  refine Goes.go (fun t => XS.aload X24.here hx rfl (hb hby at_181) rfl rfl ) ?_
  show Goes p e below _ (T24.setTop (mkF m 183 #[.val (.int p0), .val (.int p1), .val (.long q2), .second, .val (.ref b), .val (.int o), .val (.int ((((((own_y0 p0) &&& (255 : Int32)) <<< ((24 : Int32) &&& 31)) ||| (((own_y1 p0) &&& (255 : Int32)) <<< ((16 : Int32) &&& 31))) ||| (((own_y2 p0) &&& (255 : Int32)) <<< ((8 : Int32) &&& 31))) ||| ((own_y3 p0) &&& (255 : Int32)))), .unset] [(.ref b)]))
  refine Goes.go (fun t => XS.iconst X24.here hx rfl (hb hby at_183)) ?_
  show Goes p e below _ (T24.setTop (mkF m 184 #[.val (.int p0), .val (.int p1), .val (.long q2), .second, .val (.ref b), .val (.int o), .val (.int ((((((own_y0 p0) &&& (255 : Int32)) <<< ((24 : Int32) &&& 31)) ||| (((own_y1 p0) &&& (255 : Int32)) <<< ((16 : Int32) &&& 31))) ||| (((own_y2 p0) &&& (255 : Int32)) <<< ((8 : Int32) &&& 31))) ||| ((own_y3 p0) &&& (255 : Int32)))), .unset] [(.int (2 : Int32)), (.ref b)]))
  refine Goes.go (fun t => XS.iload X24.here hx rfl (hb hby at_184) rfl ) ?_
  show Goes p e below _ (T24.setTop (mkF m 186 #[.val (.int p0), .val (.int p1), .val (.long q2), .second, .val (.ref b), .val (.int o), .val (.int ((((((own_y0 p0) &&& (255 : Int32)) <<< ((24 : Int32) &&& 31)) ||| (((own_y1 p0) &&& (255 : Int32)) <<< ((16 : Int32) &&& 31))) ||| (((own_y2 p0) &&& (255 : Int32)) <<< ((8 : Int32) &&& 31))) ||| ((own_y3 p0) &&& (255 : Int32)))), .unset] [(.int o), (.int (2 : Int32)), (.ref b)]))
  refine Goes.go (fun t => XS.lloadN X24.here hx rfl (hb hby at_186) rfl ) ?_
  show Goes p e below _ (T24.setTop (mkF m 187 #[.val (.int p0), .val (.int p1), .val (.long q2), .second, .val (.ref b), .val (.int o), .val (.int ((((((own_y0 p0) &&& (255 : Int32)) <<< ((24 : Int32) &&& 31)) ||| (((own_y1 p0) &&& (255 : Int32)) <<< ((16 : Int32) &&& 31))) ||| (((own_y2 p0) &&& (255 : Int32)) <<< ((8 : Int32) &&& 31))) ||| ((own_y3 p0) &&& (255 : Int32)))), .unset] [(.long q2), (.int o), (.int (2 : Int32)), (.ref b)]))
  obtain ⟨_, _, ⟨T25, L25, k25, n25⟩, -, X25, ⟨Lc25, hQ25, l25, y25, z25⟩, st25⟩ := Jvm.LawKit.callS X24 hx (y := (⟨"com/example/halyard/halyard/BinaryEncoderPutInt32PinLaw", "untouched", "([BIIJ)Z"⟩ : MethodName)) hown (mvT hZ (hw _ (List.mem_of_getElem? (i := 6) rfl))) (mvT hZ (hw _ (List.mem_of_getElem? (i := 7) rfl))) (mvT hZ (hw _ (List.mem_of_getElem? (i := 8) rfl))) (mvT hZ (hw _ (List.mem_of_getElem? (i := 9) rfl))) (by decide) (backOf (W := 0) (rmUN l Z a0 hw [] b (2 : Int32) o q2 (own_put (fun i => own_b q2 (Nat.toInt32 i)) o.toNatClampNeg p0) T24.heap n0 Z24 V24 (by decide) (by decide) (own_kept q2 p0 ho1 ho2 (by decide) (by decide))) hZ (hw _ (List.mem_of_getElem? (i := 9) rfl)) (hw _ (List.mem_of_getElem? (i := 8) rfl)) (by decide) (by decide)) (g := (mkF m 187 #[.val (.int p0), .val (.int p1), .val (.long q2), .second, .val (.ref b), .val (.int o), .val (.int ((((((own_y0 p0) &&& (255 : Int32)) <<< ((24 : Int32) &&& 31)) ||| (((own_y1 p0) &&& (255 : Int32)) <<< ((16 : Int32) &&& 31))) ||| (((own_y2 p0) &&& (255 : Int32)) <<< ((8 : Int32) &&& 31))) ||| ((own_y3 p0) &&& (255 : Int32)))), .unset] [(.long q2), (.int o), (.int (2 : Int32)), (.ref b)])) rfl (by rw [hml]; rfl) (argsL := [(.ref b), (.int (2 : Int32)), (.int o), (.long q2)]) (rest := []) (lenOf pd0_1 rfl) rfl (by show 2 * 0 + _ ≤ _; exact Nat.le_of_eq rfl) (hb hby at_187) (fun _ _ => ⟨rfl, rfl, (by decide : 1 + 0 ≤ _), (by decide : 8 + 0 ≤ _)⟩)
  dsimp only [Pt.U, Pt.locs, Pt.cells, Pt.slots] at X25 l25 y25 z25 st25 hQ25
  subst l25 y25 z25
  obtain ⟨rfl, N25q, e25q⟩ := hQ25
  have N25 := Fr.app N24 N25q
  refine Goes.go st25 ?_
  have Z25 : n0 ≤ T25.heap.size := by rw [e25q]; exact Z24
  have V25 : own_ab Z T25.heap b (own_put (fun i => own_b q2 (Nat.toInt32 i)) o.toNatClampNeg p0) := by rw [e25q]; exact V24
  show Goes p e below _ (T25.setTop (mkF m 190 #[.val (.int p0), .val (.int p1), .val (.long q2), .second, .val (.ref b), .val (.int o), .val (.int ((((((own_y0 p0) &&& (255 : Int32)) <<< ((24 : Int32) &&& 31)) ||| (((own_y1 p0) &&& (255 : Int32)) <<< ((16 : Int32) &&& 31))) ||| (((own_y2 p0) &&& (255 : Int32)) <<< ((8 : Int32) &&& 31))) ||| ((own_y3 p0) &&& (255 : Int32)))), .unset] [(.int (1 : Int32))]))
  refine Goes.go (fun t => XS.ifNo X25.here hx rfl (hb hby at_190) rfl (Jvm.Free.XT.i0_eq_f (by decide))) ?_
  show Goes p e below _ (T25.setTop (mkF m 193 #[.val (.int p0), .val (.int p1), .val (.long q2), .second, .val (.ref b), .val (.int o), .val (.int ((((((own_y0 p0) &&& (255 : Int32)) <<< ((24 : Int32) &&& 31)) ||| (((own_y1 p0) &&& (255 : Int32)) <<< ((16 : Int32) &&& 31))) ||| (((own_y2 p0) &&& (255 : Int32)) <<< ((8 : Int32) &&& 31))) ||| ((own_y3 p0) &&& (255 : Int32)))), .unset] []))
  refine Goes.go (fun t => XS.aload X25.here hx rfl (hb hby at_193) rfl rfl ) ?_
  show Goes p e below _ (T25.setTop (mkF m 195 #[.val (.int p0), .val (.int p1), .val (.long q2), .second, .val (.ref b), .val (.int o), .val (.int ((((((own_y0 p0) &&& (255 : Int32)) <<< ((24 : Int32) &&& 31)) ||| (((own_y1 p0) &&& (255 : Int32)) <<< ((16 : Int32) &&& 31))) ||| (((own_y2 p0) &&& (255 : Int32)) <<< ((8 : Int32) &&& 31))) ||| ((own_y3 p0) &&& (255 : Int32)))), .unset] [(.ref b)]))
  refine Goes.go (fun t => XS.iconst X25.here hx rfl (hb hby at_195)) ?_
  show Goes p e below _ (T25.setTop (mkF m 196 #[.val (.int p0), .val (.int p1), .val (.long q2), .second, .val (.ref b), .val (.int o), .val (.int ((((((own_y0 p0) &&& (255 : Int32)) <<< ((24 : Int32) &&& 31)) ||| (((own_y1 p0) &&& (255 : Int32)) <<< ((16 : Int32) &&& 31))) ||| (((own_y2 p0) &&& (255 : Int32)) <<< ((8 : Int32) &&& 31))) ||| ((own_y3 p0) &&& (255 : Int32)))), .unset] [(.int (3 : Int32)), (.ref b)]))
  refine Goes.go (fun t => XS.iload X25.here hx rfl (hb hby at_196) rfl ) ?_
  show Goes p e below _ (T25.setTop (mkF m 198 #[.val (.int p0), .val (.int p1), .val (.long q2), .second, .val (.ref b), .val (.int o), .val (.int ((((((own_y0 p0) &&& (255 : Int32)) <<< ((24 : Int32) &&& 31)) ||| (((own_y1 p0) &&& (255 : Int32)) <<< ((16 : Int32) &&& 31))) ||| (((own_y2 p0) &&& (255 : Int32)) <<< ((8 : Int32) &&& 31))) ||| ((own_y3 p0) &&& (255 : Int32)))), .unset] [(.int o), (.int (3 : Int32)), (.ref b)]))
  refine Goes.go (fun t => XS.lloadN X25.here hx rfl (hb hby at_198) rfl ) ?_
  show Goes p e below _ (T25.setTop (mkF m 199 #[.val (.int p0), .val (.int p1), .val (.long q2), .second, .val (.ref b), .val (.int o), .val (.int ((((((own_y0 p0) &&& (255 : Int32)) <<< ((24 : Int32) &&& 31)) ||| (((own_y1 p0) &&& (255 : Int32)) <<< ((16 : Int32) &&& 31))) ||| (((own_y2 p0) &&& (255 : Int32)) <<< ((8 : Int32) &&& 31))) ||| ((own_y3 p0) &&& (255 : Int32)))), .unset] [(.long q2), (.int o), (.int (3 : Int32)), (.ref b)]))
  obtain ⟨_, _, ⟨T26, L26, k26, n26⟩, -, X26, ⟨Lc26, hQ26, l26, y26, z26⟩, st26⟩ := Jvm.LawKit.callS X25 hx (y := (⟨"com/example/halyard/halyard/BinaryEncoderPutInt32PinLaw", "untouched", "([BIIJ)Z"⟩ : MethodName)) hown (mvT hZ (hw _ (List.mem_of_getElem? (i := 6) rfl))) (mvT hZ (hw _ (List.mem_of_getElem? (i := 7) rfl))) (mvT hZ (hw _ (List.mem_of_getElem? (i := 8) rfl))) (mvT hZ (hw _ (List.mem_of_getElem? (i := 9) rfl))) (by decide) (backOf (W := 0) (rmUN l Z a0 hw [] b (3 : Int32) o q2 (own_put (fun i => own_b q2 (Nat.toInt32 i)) o.toNatClampNeg p0) T25.heap n0 Z25 V25 (by decide) (by decide) (own_kept q2 p0 ho1 ho2 (by decide) (by decide))) hZ (hw _ (List.mem_of_getElem? (i := 9) rfl)) (hw _ (List.mem_of_getElem? (i := 8) rfl)) (by decide) (by decide)) (g := (mkF m 199 #[.val (.int p0), .val (.int p1), .val (.long q2), .second, .val (.ref b), .val (.int o), .val (.int ((((((own_y0 p0) &&& (255 : Int32)) <<< ((24 : Int32) &&& 31)) ||| (((own_y1 p0) &&& (255 : Int32)) <<< ((16 : Int32) &&& 31))) ||| (((own_y2 p0) &&& (255 : Int32)) <<< ((8 : Int32) &&& 31))) ||| ((own_y3 p0) &&& (255 : Int32)))), .unset] [(.long q2), (.int o), (.int (3 : Int32)), (.ref b)])) rfl (by rw [hml]; rfl) (argsL := [(.ref b), (.int (3 : Int32)), (.int o), (.long q2)]) (rest := []) (lenOf pd0_1 rfl) rfl (by show 2 * 0 + _ ≤ _; exact Nat.le_of_eq rfl) (hb hby at_199) (fun _ _ => ⟨rfl, rfl, (by decide : 1 + 0 ≤ _), (by decide : 8 + 0 ≤ _)⟩)
  dsimp only [Pt.U, Pt.locs, Pt.cells, Pt.slots] at X26 l26 y26 z26 st26 hQ26
  subst l26 y26 z26
  obtain ⟨rfl, N26q, e26q⟩ := hQ26
  have N26 := Fr.app N25 N26q
  refine Goes.go st26 ?_
  have Z26 : n0 ≤ T26.heap.size := by rw [e26q]; exact Z25
  have V26 : own_ab Z T26.heap b (own_put (fun i => own_b q2 (Nat.toInt32 i)) o.toNatClampNeg p0) := by rw [e26q]; exact V25
  show Goes p e below _ (T26.setTop (mkF m 202 #[.val (.int p0), .val (.int p1), .val (.long q2), .second, .val (.ref b), .val (.int o), .val (.int ((((((own_y0 p0) &&& (255 : Int32)) <<< ((24 : Int32) &&& 31)) ||| (((own_y1 p0) &&& (255 : Int32)) <<< ((16 : Int32) &&& 31))) ||| (((own_y2 p0) &&& (255 : Int32)) <<< ((8 : Int32) &&& 31))) ||| ((own_y3 p0) &&& (255 : Int32)))), .unset] [(.int (1 : Int32))]))
  refine Goes.go (fun t => XS.ifNo X26.here hx rfl (hb hby at_202) rfl (Jvm.Free.XT.i0_eq_f (by decide))) ?_
  show Goes p e below _ (T26.setTop (mkF m 205 #[.val (.int p0), .val (.int p1), .val (.long q2), .second, .val (.ref b), .val (.int o), .val (.int ((((((own_y0 p0) &&& (255 : Int32)) <<< ((24 : Int32) &&& 31)) ||| (((own_y1 p0) &&& (255 : Int32)) <<< ((16 : Int32) &&& 31))) ||| (((own_y2 p0) &&& (255 : Int32)) <<< ((8 : Int32) &&& 31))) ||| ((own_y3 p0) &&& (255 : Int32)))), .unset] []))
  refine Goes.go (fun t => XS.aload X26.here hx rfl (hb hby at_205) rfl rfl ) ?_
  show Goes p e below _ (T26.setTop (mkF m 207 #[.val (.int p0), .val (.int p1), .val (.long q2), .second, .val (.ref b), .val (.int o), .val (.int ((((((own_y0 p0) &&& (255 : Int32)) <<< ((24 : Int32) &&& 31)) ||| (((own_y1 p0) &&& (255 : Int32)) <<< ((16 : Int32) &&& 31))) ||| (((own_y2 p0) &&& (255 : Int32)) <<< ((8 : Int32) &&& 31))) ||| ((own_y3 p0) &&& (255 : Int32)))), .unset] [(.ref b)]))
  refine Goes.go (fun t => XS.iconst X26.here hx rfl (hb hby at_207)) ?_
  show Goes p e below _ (T26.setTop (mkF m 208 #[.val (.int p0), .val (.int p1), .val (.long q2), .second, .val (.ref b), .val (.int o), .val (.int ((((((own_y0 p0) &&& (255 : Int32)) <<< ((24 : Int32) &&& 31)) ||| (((own_y1 p0) &&& (255 : Int32)) <<< ((16 : Int32) &&& 31))) ||| (((own_y2 p0) &&& (255 : Int32)) <<< ((8 : Int32) &&& 31))) ||| ((own_y3 p0) &&& (255 : Int32)))), .unset] [(.int (4 : Int32)), (.ref b)]))
  refine Goes.go (fun t => XS.iload X26.here hx rfl (hb hby at_208) rfl ) ?_
  show Goes p e below _ (T26.setTop (mkF m 210 #[.val (.int p0), .val (.int p1), .val (.long q2), .second, .val (.ref b), .val (.int o), .val (.int ((((((own_y0 p0) &&& (255 : Int32)) <<< ((24 : Int32) &&& 31)) ||| (((own_y1 p0) &&& (255 : Int32)) <<< ((16 : Int32) &&& 31))) ||| (((own_y2 p0) &&& (255 : Int32)) <<< ((8 : Int32) &&& 31))) ||| ((own_y3 p0) &&& (255 : Int32)))), .unset] [(.int o), (.int (4 : Int32)), (.ref b)]))
  refine Goes.go (fun t => XS.lloadN X26.here hx rfl (hb hby at_210) rfl ) ?_
  show Goes p e below _ (T26.setTop (mkF m 211 #[.val (.int p0), .val (.int p1), .val (.long q2), .second, .val (.ref b), .val (.int o), .val (.int ((((((own_y0 p0) &&& (255 : Int32)) <<< ((24 : Int32) &&& 31)) ||| (((own_y1 p0) &&& (255 : Int32)) <<< ((16 : Int32) &&& 31))) ||| (((own_y2 p0) &&& (255 : Int32)) <<< ((8 : Int32) &&& 31))) ||| ((own_y3 p0) &&& (255 : Int32)))), .unset] [(.long q2), (.int o), (.int (4 : Int32)), (.ref b)]))
  obtain ⟨_, _, ⟨T27, L27, k27, n27⟩, -, X27, ⟨Lc27, hQ27, l27, y27, z27⟩, st27⟩ := Jvm.LawKit.callS X26 hx (y := (⟨"com/example/halyard/halyard/BinaryEncoderPutInt32PinLaw", "untouched", "([BIIJ)Z"⟩ : MethodName)) hown (mvT hZ (hw _ (List.mem_of_getElem? (i := 6) rfl))) (mvT hZ (hw _ (List.mem_of_getElem? (i := 7) rfl))) (mvT hZ (hw _ (List.mem_of_getElem? (i := 8) rfl))) (mvT hZ (hw _ (List.mem_of_getElem? (i := 9) rfl))) (by decide) (backOf (W := 0) (rmUN l Z a0 hw [] b (4 : Int32) o q2 (own_put (fun i => own_b q2 (Nat.toInt32 i)) o.toNatClampNeg p0) T26.heap n0 Z26 V26 (by decide) (by decide) (own_kept q2 p0 ho1 ho2 (by decide) (by decide))) hZ (hw _ (List.mem_of_getElem? (i := 9) rfl)) (hw _ (List.mem_of_getElem? (i := 8) rfl)) (by decide) (by decide)) (g := (mkF m 211 #[.val (.int p0), .val (.int p1), .val (.long q2), .second, .val (.ref b), .val (.int o), .val (.int ((((((own_y0 p0) &&& (255 : Int32)) <<< ((24 : Int32) &&& 31)) ||| (((own_y1 p0) &&& (255 : Int32)) <<< ((16 : Int32) &&& 31))) ||| (((own_y2 p0) &&& (255 : Int32)) <<< ((8 : Int32) &&& 31))) ||| ((own_y3 p0) &&& (255 : Int32)))), .unset] [(.long q2), (.int o), (.int (4 : Int32)), (.ref b)])) rfl (by rw [hml]; rfl) (argsL := [(.ref b), (.int (4 : Int32)), (.int o), (.long q2)]) (rest := []) (lenOf pd0_1 rfl) rfl (by show 2 * 0 + _ ≤ _; exact Nat.le_of_eq rfl) (hb hby at_211) (fun _ _ => ⟨rfl, rfl, (by decide : 1 + 0 ≤ _), (by decide : 8 + 0 ≤ _)⟩)
  dsimp only [Pt.U, Pt.locs, Pt.cells, Pt.slots] at X27 l27 y27 z27 st27 hQ27
  subst l27 y27 z27
  obtain ⟨rfl, N27q, e27q⟩ := hQ27
  have N27 := Fr.app N26 N27q
  refine Goes.go st27 ?_
  have Z27 : n0 ≤ T27.heap.size := by rw [e27q]; exact Z26
  have V27 : own_ab Z T27.heap b (own_put (fun i => own_b q2 (Nat.toInt32 i)) o.toNatClampNeg p0) := by rw [e27q]; exact V26
  show Goes p e below _ (T27.setTop (mkF m 214 #[.val (.int p0), .val (.int p1), .val (.long q2), .second, .val (.ref b), .val (.int o), .val (.int ((((((own_y0 p0) &&& (255 : Int32)) <<< ((24 : Int32) &&& 31)) ||| (((own_y1 p0) &&& (255 : Int32)) <<< ((16 : Int32) &&& 31))) ||| (((own_y2 p0) &&& (255 : Int32)) <<< ((8 : Int32) &&& 31))) ||| ((own_y3 p0) &&& (255 : Int32)))), .unset] [(.int (1 : Int32))]))
  refine Goes.go (fun t => XS.ifNo X27.here hx rfl (hb hby at_214) rfl (Jvm.Free.XT.i0_eq_f (by decide))) ?_
  show Goes p e below _ (T27.setTop (mkF m 217 #[.val (.int p0), .val (.int p1), .val (.long q2), .second, .val (.ref b), .val (.int o), .val (.int ((((((own_y0 p0) &&& (255 : Int32)) <<< ((24 : Int32) &&& 31)) ||| (((own_y1 p0) &&& (255 : Int32)) <<< ((16 : Int32) &&& 31))) ||| (((own_y2 p0) &&& (255 : Int32)) <<< ((8 : Int32) &&& 31))) ||| ((own_y3 p0) &&& (255 : Int32)))), .unset] []))
  refine Goes.go (fun t => XS.aload X27.here hx rfl (hb hby at_217) rfl rfl ) ?_
  show Goes p e below _ (T27.setTop (mkF m 219 #[.val (.int p0), .val (.int p1), .val (.long q2), .second, .val (.ref b), .val (.int o), .val (.int ((((((own_y0 p0) &&& (255 : Int32)) <<< ((24 : Int32) &&& 31)) ||| (((own_y1 p0) &&& (255 : Int32)) <<< ((16 : Int32) &&& 31))) ||| (((own_y2 p0) &&& (255 : Int32)) <<< ((8 : Int32) &&& 31))) ||| ((own_y3 p0) &&& (255 : Int32)))), .unset] [(.ref b)]))
  refine Goes.go (fun t => XS.iconst X27.here hx rfl (hb hby at_219)) ?_
  show Goes p e below _ (T27.setTop (mkF m 220 #[.val (.int p0), .val (.int p1), .val (.long q2), .second, .val (.ref b), .val (.int o), .val (.int ((((((own_y0 p0) &&& (255 : Int32)) <<< ((24 : Int32) &&& 31)) ||| (((own_y1 p0) &&& (255 : Int32)) <<< ((16 : Int32) &&& 31))) ||| (((own_y2 p0) &&& (255 : Int32)) <<< ((8 : Int32) &&& 31))) ||| ((own_y3 p0) &&& (255 : Int32)))), .unset] [(.int (5 : Int32)), (.ref b)]))
  refine Goes.go (fun t => XS.iload X27.here hx rfl (hb hby at_220) rfl ) ?_
  show Goes p e below _ (T27.setTop (mkF m 222 #[.val (.int p0), .val (.int p1), .val (.long q2), .second, .val (.ref b), .val (.int o), .val (.int ((((((own_y0 p0) &&& (255 : Int32)) <<< ((24 : Int32) &&& 31)) ||| (((own_y1 p0) &&& (255 : Int32)) <<< ((16 : Int32) &&& 31))) ||| (((own_y2 p0) &&& (255 : Int32)) <<< ((8 : Int32) &&& 31))) ||| ((own_y3 p0) &&& (255 : Int32)))), .unset] [(.int o), (.int (5 : Int32)), (.ref b)]))
  refine Goes.go (fun t => XS.lloadN X27.here hx rfl (hb hby at_222) rfl ) ?_
  show Goes p e below _ (T27.setTop (mkF m 223 #[.val (.int p0), .val (.int p1), .val (.long q2), .second, .val (.ref b), .val (.int o), .val (.int ((((((own_y0 p0) &&& (255 : Int32)) <<< ((24 : Int32) &&& 31)) ||| (((own_y1 p0) &&& (255 : Int32)) <<< ((16 : Int32) &&& 31))) ||| (((own_y2 p0) &&& (255 : Int32)) <<< ((8 : Int32) &&& 31))) ||| ((own_y3 p0) &&& (255 : Int32)))), .unset] [(.long q2), (.int o), (.int (5 : Int32)), (.ref b)]))
  obtain ⟨_, _, ⟨T28, L28, k28, n28⟩, -, X28, ⟨Lc28, hQ28, l28, y28, z28⟩, st28⟩ := Jvm.LawKit.callS X27 hx (y := (⟨"com/example/halyard/halyard/BinaryEncoderPutInt32PinLaw", "untouched", "([BIIJ)Z"⟩ : MethodName)) hown (mvT hZ (hw _ (List.mem_of_getElem? (i := 6) rfl))) (mvT hZ (hw _ (List.mem_of_getElem? (i := 7) rfl))) (mvT hZ (hw _ (List.mem_of_getElem? (i := 8) rfl))) (mvT hZ (hw _ (List.mem_of_getElem? (i := 9) rfl))) (by decide) (backOf (W := 0) (rmUN l Z a0 hw [] b (5 : Int32) o q2 (own_put (fun i => own_b q2 (Nat.toInt32 i)) o.toNatClampNeg p0) T27.heap n0 Z27 V27 (by decide) (by decide) (own_kept q2 p0 ho1 ho2 (by decide) (by decide))) hZ (hw _ (List.mem_of_getElem? (i := 9) rfl)) (hw _ (List.mem_of_getElem? (i := 8) rfl)) (by decide) (by decide)) (g := (mkF m 223 #[.val (.int p0), .val (.int p1), .val (.long q2), .second, .val (.ref b), .val (.int o), .val (.int ((((((own_y0 p0) &&& (255 : Int32)) <<< ((24 : Int32) &&& 31)) ||| (((own_y1 p0) &&& (255 : Int32)) <<< ((16 : Int32) &&& 31))) ||| (((own_y2 p0) &&& (255 : Int32)) <<< ((8 : Int32) &&& 31))) ||| ((own_y3 p0) &&& (255 : Int32)))), .unset] [(.long q2), (.int o), (.int (5 : Int32)), (.ref b)])) rfl (by rw [hml]; rfl) (argsL := [(.ref b), (.int (5 : Int32)), (.int o), (.long q2)]) (rest := []) (lenOf pd0_1 rfl) rfl (by show 2 * 0 + _ ≤ _; exact Nat.le_of_eq rfl) (hb hby at_223) (fun _ _ => ⟨rfl, rfl, (by decide : 1 + 0 ≤ _), (by decide : 8 + 0 ≤ _)⟩)
  dsimp only [Pt.U, Pt.locs, Pt.cells, Pt.slots] at X28 l28 y28 z28 st28 hQ28
  subst l28 y28 z28
  obtain ⟨rfl, N28q, e28q⟩ := hQ28
  have N28 := Fr.app N27 N28q
  refine Goes.go st28 ?_
  have Z28 : n0 ≤ T28.heap.size := by rw [e28q]; exact Z27
  have V28 : own_ab Z T28.heap b (own_put (fun i => own_b q2 (Nat.toInt32 i)) o.toNatClampNeg p0) := by rw [e28q]; exact V27
  show Goes p e below _ (T28.setTop (mkF m 226 #[.val (.int p0), .val (.int p1), .val (.long q2), .second, .val (.ref b), .val (.int o), .val (.int ((((((own_y0 p0) &&& (255 : Int32)) <<< ((24 : Int32) &&& 31)) ||| (((own_y1 p0) &&& (255 : Int32)) <<< ((16 : Int32) &&& 31))) ||| (((own_y2 p0) &&& (255 : Int32)) <<< ((8 : Int32) &&& 31))) ||| ((own_y3 p0) &&& (255 : Int32)))), .unset] [(.int (1 : Int32))]))
  refine Goes.go (fun t => XS.ifNo X28.here hx rfl (hb hby at_226) rfl (Jvm.Free.XT.i0_eq_f (by decide))) ?_
  show Goes p e below _ (T28.setTop (mkF m 229 #[.val (.int p0), .val (.int p1), .val (.long q2), .second, .val (.ref b), .val (.int o), .val (.int ((((((own_y0 p0) &&& (255 : Int32)) <<< ((24 : Int32) &&& 31)) ||| (((own_y1 p0) &&& (255 : Int32)) <<< ((16 : Int32) &&& 31))) ||| (((own_y2 p0) &&& (255 : Int32)) <<< ((8 : Int32) &&& 31))) ||| ((own_y3 p0) &&& (255 : Int32)))), .unset] []))
  refine Goes.go (fun t => XS.aload X28.here hx rfl (hb hby at_229) rfl rfl ) ?_
  show Goes p e below _ (T28.setTop (mkF m 231 #[.val (.int p0), .val (.int p1), .val (.long q2), .second, .val (.ref b), .val (.int o), .val (.int ((((((own_y0 p0) &&& (255 : Int32)) <<< ((24 : Int32) &&& 31)) ||| (((own_y1 p0) &&& (255 : Int32)) <<< ((16 : Int32) &&& 31))) ||| (((own_y2 p0) &&& (255 : Int32)) <<< ((8 : Int32) &&& 31))) ||| ((own_y3 p0) &&& (255 : Int32)))), .unset] [(.ref b)]))
  refine Goes.go (fun t => XS.bipush X28.here hx rfl (hb hby at_231)) ?_
  show Goes p e below _ (T28.setTop (mkF m 233 #[.val (.int p0), .val (.int p1), .val (.long q2), .second, .val (.ref b), .val (.int o), .val (.int ((((((own_y0 p0) &&& (255 : Int32)) <<< ((24 : Int32) &&& 31)) ||| (((own_y1 p0) &&& (255 : Int32)) <<< ((16 : Int32) &&& 31))) ||| (((own_y2 p0) &&& (255 : Int32)) <<< ((8 : Int32) &&& 31))) ||| ((own_y3 p0) &&& (255 : Int32)))), .unset] [(.int (6 : Int32)), (.ref b)]))
  refine Goes.go (fun t => XS.iload X28.here hx rfl (hb hby at_233) rfl ) ?_
  show Goes p e below _ (T28.setTop (mkF m 235 #[.val (.int p0), .val (.int p1), .val (.long q2), .second, .val (.ref b), .val (.int o), .val (.int ((((((own_y0 p0) &&& (255 : Int32)) <<< ((24 : Int32) &&& 31)) ||| (((own_y1 p0) &&& (255 : Int32)) <<< ((16 : Int32) &&& 31))) ||| (((own_y2 p0) &&& (255 : Int32)) <<< ((8 : Int32) &&& 31))) ||| ((own_y3 p0) &&& (255 : Int32)))), .unset] [(.int o), (.int (6 : Int32)), (.ref b)]))
  refine Goes.go (fun t => XS.lloadN X28.here hx rfl (hb hby at_235) rfl ) ?_
  show Goes p e below _ (T28.setTop (mkF m 236 #[.val (.int p0), .val (.int p1), .val (.long q2), .second, .val (.ref b), .val (.int o), .val (.int ((((((own_y0 p0) &&& (255 : Int32)) <<< ((24 : Int32) &&& 31)) ||| (((own_y1 p0) &&& (255 : Int32)) <<< ((16 : Int32) &&& 31))) ||| (((own_y2 p0) &&& (255 : Int32)) <<< ((8 : Int32) &&& 31))) ||| ((own_y3 p0) &&& (255 : Int32)))), .unset] [(.long q2), (.int o), (.int (6 : Int32)), (.ref b)]))
  obtain ⟨_, _, ⟨T29, L29, k29, n29⟩, -, X29, ⟨Lc29, hQ29, l29, y29, z29⟩, st29⟩ := Jvm.LawKit.callS X28 hx (y := (⟨"com/example/halyard/halyard/BinaryEncoderPutInt32PinLaw", "untouched", "([BIIJ)Z"⟩ : MethodName)) hown (mvT hZ (hw _ (List.mem_of_getElem? (i := 6) rfl))) (mvT hZ (hw _ (List.mem_of_getElem? (i := 7) rfl))) (mvT hZ (hw _ (List.mem_of_getElem? (i := 8) rfl))) (mvT hZ (hw _ (List.mem_of_getElem? (i := 9) rfl))) (by decide) (backOf (W := 0) (rmUN l Z a0 hw [] b (6 : Int32) o q2 (own_put (fun i => own_b q2 (Nat.toInt32 i)) o.toNatClampNeg p0) T28.heap n0 Z28 V28 (by decide) (by decide) (own_kept q2 p0 ho1 ho2 (by decide) (by decide))) hZ (hw _ (List.mem_of_getElem? (i := 9) rfl)) (hw _ (List.mem_of_getElem? (i := 8) rfl)) (by decide) (by decide)) (g := (mkF m 236 #[.val (.int p0), .val (.int p1), .val (.long q2), .second, .val (.ref b), .val (.int o), .val (.int ((((((own_y0 p0) &&& (255 : Int32)) <<< ((24 : Int32) &&& 31)) ||| (((own_y1 p0) &&& (255 : Int32)) <<< ((16 : Int32) &&& 31))) ||| (((own_y2 p0) &&& (255 : Int32)) <<< ((8 : Int32) &&& 31))) ||| ((own_y3 p0) &&& (255 : Int32)))), .unset] [(.long q2), (.int o), (.int (6 : Int32)), (.ref b)])) rfl (by rw [hml]; rfl) (argsL := [(.ref b), (.int (6 : Int32)), (.int o), (.long q2)]) (rest := []) (lenOf pd0_1 rfl) rfl (by show 2 * 0 + _ ≤ _; exact Nat.le_of_eq rfl) (hb hby at_236) (fun _ _ => ⟨rfl, rfl, (by decide : 1 + 0 ≤ _), (by decide : 8 + 0 ≤ _)⟩)
  dsimp only [Pt.U, Pt.locs, Pt.cells, Pt.slots] at X29 l29 y29 z29 st29 hQ29
  subst l29 y29 z29
  obtain ⟨rfl, N29q, e29q⟩ := hQ29
  have N29 := Fr.app N28 N29q
  refine Goes.go st29 ?_
  have Z29 : n0 ≤ T29.heap.size := by rw [e29q]; exact Z28
  have V29 : own_ab Z T29.heap b (own_put (fun i => own_b q2 (Nat.toInt32 i)) o.toNatClampNeg p0) := by rw [e29q]; exact V28
  show Goes p e below _ (T29.setTop (mkF m 239 #[.val (.int p0), .val (.int p1), .val (.long q2), .second, .val (.ref b), .val (.int o), .val (.int ((((((own_y0 p0) &&& (255 : Int32)) <<< ((24 : Int32) &&& 31)) ||| (((own_y1 p0) &&& (255 : Int32)) <<< ((16 : Int32) &&& 31))) ||| (((own_y2 p0) &&& (255 : Int32)) <<< ((8 : Int32) &&& 31))) ||| ((own_y3 p0) &&& (255 : Int32)))), .unset] [(.int (1 : Int32))]))
  refine Goes.go (fun t => XS.ifNo X29.here hx rfl (hb hby at_239) rfl (Jvm.Free.XT.i0_eq_f (by decide))) ?_
  show Goes p e below _ (T29.setTop (mkF m 242 #[.val (.int p0), .val (.int p1), .val (.long q2), .second, .val (.ref b), .val (.int o), .val (.int ((((((own_y0 p0) &&& (255 : Int32)) <<< ((24 : Int32) &&& 31)) ||| (((own_y1 p0) &&& (255 : Int32)) <<< ((16 : Int32) &&& 31))) ||| (((own_y2 p0) &&& (255 : Int32)) <<< ((8 : Int32) &&& 31))) ||| ((own_y3 p0) &&& (255 : Int32)))), .unset] []))
  refine Goes.go (fun t => XS.aload X29.here hx rfl (hb hby at_242) rfl rfl ) ?_
  show Goes p e below _ (T29.setTop (mkF m 244 #[.val (.int p0), .val (.int p1), .val (.long q2), .second, .val (.ref b), .val (.int o), .val (.int ((((((own_y0 p0) &&& (255 : Int32)) <<< ((24 : Int32) &&& 31)) ||| (((own_y1 p0) &&& (255 : Int32)) <<< ((16 : Int32) &&& 31))) ||| (((own_y2 p0) &&& (255 : Int32)) <<< ((8 : Int32) &&& 31))) ||| ((own_y3 p0) &&& (255 : Int32)))), .unset] [(.ref b)]))
  refine Goes.go (fun t => XS.bipush X29.here hx rfl (hb hby at_244)) ?_
  show Goes p e below _ (T29.setTop (mkF m 246 #[.val (.int p0), .val (.int p1), .val (.long q2), .second, .val (.ref b), .val (.int o), .val (.int ((((((own_y0 p0) &&& (255 : Int32)) <<< ((24 : Int32) &&& 31)) ||| (((own_y1 p0) &&& (255 : Int32)) <<< ((16 : Int32) &&& 31))) ||| (((own_y2 p0) &&& (255 : Int32)) <<< ((8 : Int32) &&& 31))) ||| ((own_y3 p0) &&& (255 : Int32)))), .unset] [(.int (7 : Int32)), (.ref b)]))
  refine Goes.go (fun t => XS.iload X29.here hx rfl (hb hby at_246) rfl ) ?_
  show Goes p e below _ (T29.setTop (mkF m 248 #[.val (.int p0), .val (.int p1), .val (.long q2), .second, .val (.ref b), .val (.int o), .val (.int ((((((own_y0 p0) &&& (255 : Int32)) <<< ((24 : Int32) &&& 31)) ||| (((own_y1 p0) &&& (255 : Int32)) <<< ((16 : Int32) &&& 31))) ||| (((own_y2 p0) &&& (255 : Int32)) <<< ((8 : Int32) &&& 31))) ||| ((own_y3 p0) &&& (255 : Int32)))), .unset] [(.int o), (.int (7 : Int32)), (.ref b)]))
  refine Goes.go (fun t => XS.lloadN X29.here hx rfl (hb hby at_248) rfl ) ?_
  show Goes p e below _ (T29.setTop (mkF m 249 #[.val (.int p0), .val (.int p1), .val (.long q2), .second, .val (.ref b), .val (.int o), .val (.int ((((((own_y0 p0) &&& (255 : Int32)) <<< ((24 : Int32) &&& 31)) ||| (((own_y1 p0) &&& (255 : Int32)) <<< ((16 : Int32) &&& 31))) ||| (((own_y2 p0) &&& (255 : Int32)) <<< ((8 : Int32) &&& 31))) ||| ((own_y3 p0) &&& (255 : Int32)))), .unset] [(.long q2), (.int o), (.int (7 : Int32)), (.ref b)]))
  obtain ⟨_, _, ⟨T30, L30, k30, n30⟩, -, X30, ⟨Lc30, hQ30, l30, y30, z30⟩, st30⟩ := Jvm.LawKit.callS X29 hx (y := (⟨"com/example/halyard/halyard/BinaryEncoderPutInt32PinLaw", "untouched", "([BIIJ)Z"⟩ : MethodName)) hown (mvT hZ (hw _ (List.mem_of_getElem? (i := 6) rfl))) (mvT hZ (hw _ (List.mem_of_getElem? (i := 7) rfl))) (mvT hZ (hw _ (List.mem_of_getElem? (i := 8) rfl))) (mvT hZ (hw _ (List.mem_of_getElem? (i := 9) rfl))) (by decide) (backOf (W := 0) (rmUN l Z a0 hw [] b (7 : Int32) o q2 (own_put (fun i => own_b q2 (Nat.toInt32 i)) o.toNatClampNeg p0) T29.heap n0 Z29 V29 (by decide) (by decide) (own_kept q2 p0 ho1 ho2 (by decide) (by decide))) hZ (hw _ (List.mem_of_getElem? (i := 9) rfl)) (hw _ (List.mem_of_getElem? (i := 8) rfl)) (by decide) (by decide)) (g := (mkF m 249 #[.val (.int p0), .val (.int p1), .val (.long q2), .second, .val (.ref b), .val (.int o), .val (.int ((((((own_y0 p0) &&& (255 : Int32)) <<< ((24 : Int32) &&& 31)) ||| (((own_y1 p0) &&& (255 : Int32)) <<< ((16 : Int32) &&& 31))) ||| (((own_y2 p0) &&& (255 : Int32)) <<< ((8 : Int32) &&& 31))) ||| ((own_y3 p0) &&& (255 : Int32)))), .unset] [(.long q2), (.int o), (.int (7 : Int32)), (.ref b)])) rfl (by rw [hml]; rfl) (argsL := [(.ref b), (.int (7 : Int32)), (.int o), (.long q2)]) (rest := []) (lenOf pd0_1 rfl) rfl (by show 2 * 0 + _ ≤ _; exact Nat.le_of_eq rfl) (hb hby at_249) (fun _ _ => ⟨rfl, rfl, (by decide : 1 + 0 ≤ _), (by decide : 8 + 0 ≤ _)⟩)
  dsimp only [Pt.U, Pt.locs, Pt.cells, Pt.slots] at X30 l30 y30 z30 st30 hQ30
  subst l30 y30 z30
  obtain ⟨rfl, N30q, e30q⟩ := hQ30
  have N30 := Fr.app N29 N30q
  refine Goes.go st30 ?_
  have Z30 : n0 ≤ T30.heap.size := by rw [e30q]; exact Z29
  have V30 : own_ab Z T30.heap b (own_put (fun i => own_b q2 (Nat.toInt32 i)) o.toNatClampNeg p0) := by rw [e30q]; exact V29
  show Goes p e below _ (T30.setTop (mkF m 252 #[.val (.int p0), .val (.int p1), .val (.long q2), .second, .val (.ref b), .val (.int o), .val (.int ((((((own_y0 p0) &&& (255 : Int32)) <<< ((24 : Int32) &&& 31)) ||| (((own_y1 p0) &&& (255 : Int32)) <<< ((16 : Int32) &&& 31))) ||| (((own_y2 p0) &&& (255 : Int32)) <<< ((8 : Int32) &&& 31))) ||| ((own_y3 p0) &&& (255 : Int32)))), .unset] [(.int (1 : Int32))]))
  refine Goes.go (fun t => XS.ifNo X30.here hx rfl (hb hby at_252) rfl (Jvm.Free.XT.i0_eq_f (by decide))) ?_
  show Goes p e below _ (T30.setTop (mkF m 255 #[.val (.int p0), .val (.int p1), .val (.long q2), .second, .val (.ref b), .val (.int o), .val (.int ((((((own_y0 p0) &&& (255 : Int32)) <<< ((24 : Int32) &&& 31)) ||| (((own_y1 p0) &&& (255 : Int32)) <<< ((16 : Int32) &&& 31))) ||| (((own_y2 p0) &&& (255 : Int32)) <<< ((8 : Int32) &&& 31))) ||| ((own_y3 p0) &&& (255 : Int32)))), .unset] []))
  refine Goes.go (fun t => XS.iconst X30.here hx rfl (hb hby at_255)) ?_
  show Goes p e below _ (T30.setTop (mkF m 256 #[.val (.int p0), .val (.int p1), .val (.long q2), .second, .val (.ref b), .val (.int o), .val (.int ((((((own_y0 p0) &&& (255 : Int32)) <<< ((24 : Int32) &&& 31)) ||| (((own_y1 p0) &&& (255 : Int32)) <<< ((16 : Int32) &&& 31))) ||| (((own_y2 p0) &&& (255 : Int32)) <<< ((8 : Int32) &&& 31))) ||| ((own_y3 p0) &&& (255 : Int32)))), .unset] [(.int (1 : Int32))]))
  refine Goes.go (fun t => XS.goto X30.here hx rfl (pc0 := 256) (pc' := 260) rfl (hb hby at_256) (by decide) (by decide)) ?_
  show Goes p e below _ (T30.setTop (mkF m 260 #[.val (.int p0), .val (.int p1), .val (.long q2), .second, .val (.ref b), .val (.int o), .val (.int ((((((own_y0 p0) &&& (255 : Int32)) <<< ((24 : Int32) &&& 31)) ||| (((own_y1 p0) &&& (255 : Int32)) <<< ((16 : Int32) &&& 31))) ||| (((own_y2 p0) &&& (255 : Int32)) <<< ((8 : Int32) &&& 31))) ||| ((own_y3 p0) &&& (255 : Int32)))), .unset] [(.int (1 : Int32))]))
  refine Goes.go (fun t => XS.istore X30.here hx rfl (hb hby at_260) rfl (l' := #[.val (.int p0), .val (.int p1), .val (.long q2), .second, .val (.ref b), .val (.int o), .val (.int ((((((own_y0 p0) &&& (255 : Int32)) <<< ((24 : Int32) &&& 31)) ||| (((own_y1 p0) &&& (255 : Int32)) <<< ((16 : Int32) &&& 31))) ||| (((own_y2 p0) &&& (255 : Int32)) <<< ((8 : Int32) &&& 31))) ||| ((own_y3 p0) &&& (255 : Int32)))), .val (.int (1 : Int32))]) rfl) ?_
  show Goes p e below _ (T30.setTop (mkF m 262 #[.val (.int p0), .val (.int p1), .val (.long q2), .second, .val (.ref b), .val (.int o), .val (.int ((((((own_y0 p0) &&& (255 : Int32)) <<< ((24 : Int32) &&& 31)) ||| (((own_y1 p0) &&& (255 : Int32)) <<< ((16 : Int32) &&& 31))) ||| (((own_y2 p0) &&& (255 : Int32)) <<< ((8 : Int32) &&& 31))) ||| ((own_y3 p0) &&& (255 : Int32)))), .val (.int (1 : Int32))] []))
  refine Goes.go (fun t => XS.iload X30.here hx rfl (hb hby at_262) rfl ) ?_
  show Goes p e below _ (T30.setTop (mkF m 264 #[.val (.int p0), .val (.int p1), .val (.long q2), .second, .val (.ref b), .val (.int o), .val (.int ((((((own_y0 p0) &&& (255 : Int32)) <<< ((24 : Int32) &&& 31)) ||| (((own_y1 p0) &&& (255 : Int32)) <<< ((16 : Int32) &&& 31))) ||| (((own_y2 p0) &&& (255 : Int32)) <<< ((8 : Int32) &&& 31))) ||| ((own_y3 p0) &&& (255 : Int32)))), .val (.int (1 : Int32))] [(.int ((((((own_y0 p0) &&& (255 : Int32)) <<< ((24 : Int32) &&& 31)) ||| (((own_y1 p0) &&& (255 : Int32)) <<< ((16 : Int32) &&& 31))) ||| (((own_y2 p0) &&& (255 : Int32)) <<< ((8 : Int32) &&& 31))) ||| ((own_y3 p0) &&& (255 : Int32))))]))
  refine Goes.go (fun t => XS.iloadN X30.here hx rfl (hb hby at_264) rfl ) ?_
  show Goes p e below _ (T30.setTop (mkF m 265 #[.val (.int p0), .val (.int p1), .val (.long q2), .second, .val (.ref b), .val (.int o), .val (.int ((((((own_y0 p0) &&& (255 : Int32)) <<< ((24 : Int32) &&& 31)) ||| (((own_y1 p0) &&& (255 : Int32)) <<< ((16 : Int32) &&& 31))) ||| (((own_y2 p0) &&& (255 : Int32)) <<< ((8 : Int32) &&& 31))) ||| ((own_y3 p0) &&& (255 : Int32)))), .val (.int (1 : Int32))] [(.int p0), (.int ((((((own_y0 p0) &&& (255 : Int32)) <<< ((24 : Int32) &&& 31)) ||| (((own_y1 p0) &&& (255 : Int32)) <<< ((16 : Int32) &&& 31))) ||| (((own_y2 p0) &&& (255 : Int32)) <<< ((8 : Int32) &&& 31))) ||| ((own_y3 p0) &&& (255 : Int32))))]))
  refine Goes.go (fun t => XS.icmpNo X30.here hx rfl (hb hby at_265) rfl (Jvm.Free.XT.ii_ne_f (own_back p0))) ?_
  show Goes p e below _ (T30.setTop (mkF m 268 #[.val (.int p0), .val (.int p1), .val (.long q2), .second, .val (.ref b), .val (.int o), .val (.int ((((((own_y0 p0) &&& (255 : Int32)) <<< ((24 : Int32) &&& 31)) ||| (((own_y1 p0) &&& (255 : Int32)) <<< ((16 : Int32) &&& 31))) ||| (((own_y2 p0) &&& (255 : Int32)) <<< ((8 : Int32) &&& 31))) ||| ((own_y3 p0) &&& (255 : Int32)))), .val (.int (1 : Int32))] []))
  refine Goes.go (fun t => XS.iload X30.here hx rfl (hb hby at_268) rfl ) ?_
  show Goes p e below _ (T30.setTop (mkF m 270 #[.val (.int p0), .val (.int p1), .val (.long q2), .second, .val (.ref b), .val (.int o), .val (.int ((((((own_y0 p0) &&& (255 : Int32)) <<< ((24 : Int32) &&& 31)) ||| (((own_y1 p0) &&& (255 : Int32)) <<< ((16 : Int32) &&& 31))) ||| (((own_y2 p0) &&& (255 : Int32)) <<< ((8 : Int32) &&& 31))) ||| ((own_y3 p0) &&& (255 : Int32)))), .val (.int (1 : Int32))] [(.int (1 : Int32))]))
  refine Goes.go (fun t => XS.ifNo X30.here hx rfl (hb hby at_270) rfl (Jvm.Free.XT.i0_eq_f (by decide))) ?_
  show Goes p e below _ (T30.setTop (mkF m 273 #[.val (.int p0), .val (.int p1), .val (.long q2), .second, .val (.ref b), .val (.int o), .val (.int ((((((own_y0 p0) &&& (255 : Int32)) <<< ((24 : Int32) &&& 31)) ||| (((own_y1 p0) &&& (255 : Int32)) <<< ((16 : Int32) &&& 31))) ||| (((own_y2 p0) &&& (255 : Int32)) <<< ((8 : Int32) &&& 31))) ||| ((own_y3 p0) &&& (255 : Int32)))), .val (.int (1 : Int32))] []))
  refine Goes.go (fun t => XS.iconst X30.here hx rfl (hb hby at_273)) ?_
  show Goes p e below _ (T30.setTop (mkF m 274 #[.val (.int p0), .val (.int p1), .val (.long q2), .second, .val (.ref b), .val (.int o), .val (.int ((((((own_y0 p0) &&& (255 : Int32)) <<< ((24 : Int32) &&& 31)) ||| (((own_y1 p0) &&& (255 : Int32)) <<< ((16 : Int32) &&& 31))) ||| (((own_y2 p0) &&& (255 : Int32)) <<< ((8 : Int32) &&& 31))) ||| ((own_y3 p0) &&& (255 : Int32)))), .val (.int (1 : Int32))] [(.int (1 : Int32))]))
  refine Goes.go (fun t => XS.goto X30.here hx rfl (pc0 := 274) (pc' := 278) rfl (hb hby at_274) (by decide) (by decide)) ?_
  show Goes p e below _ (T30.setTop (mkF m 278 #[.val (.int p0), .val (.int p1), .val (.long q2), .second, .val (.ref b), .val (.int o), .val (.int ((((((own_y0 p0) &&& (255 : Int32)) <<< ((24 : Int32) &&& 31)) ||| (((own_y1 p0) &&& (255 : Int32)) <<< ((16 : Int32) &&& 31))) ||| (((own_y2 p0) &&& (255 : Int32)) <<< ((8 : Int32) &&& 31))) ||| ((own_y3 p0) &&& (255 : Int32)))), .val (.int (1 : Int32))] [(.int (1 : Int32))]))
  exact Goes.out X30 (fun h => by rw [Bd.returns] at h; cases h) Bd.notSynchronized (fun fs hr => retN X30 hx (t := .boolean) Bd.returns (by simp) (hb hby at_278) hr) ⟨rfl, N30⟩ (by decide) (by decide)
set_option maxRecDepth 65536 in
set_option maxHeartbeats 40000000 in
theorem comes_1 {Post : Tables → Env → Array Value → State → Outcome → State → Prop} (hpost : ∀ tb e args s v u, (limb_1_1.after args s (.returned v) u = true ∧ limb_1_2.after args s (.returned v) u = true ∧ True) → FrameEnd s (.returned v) u (Jvm.fieldLocs frame_1_writes args s ++ Jvm.arrayLocs frame_1_arrays args s ++ Jvm.staticLocs frame_1_statics s) 16 128 → Post tb e args s (.returned v) u) :
    ArmFor flags0 classFile x code maxLocals ret World_1 tables_1 room_1 Calls_1 rest_1 Pre_1 Post := by
  intro l hfl _ _ p e ha hc hk s m args below hf hA hF happ hP
  obtain ⟨hcalls, hrest, hpre⟩ := hP
  obtain ⟨-, -, -, hnamed, -, -, -, hat⟩ := (Spec.applies_iff hf).mp happ
  obtain ⟨hg, hn⟩ := and_e (Cond.before_iff.mp (show (Jvm.Cond.and given_1 narrow_1).before args s = true from hpre))
  obtain ⟨gc, gv0⟩ := and_e hg
  obtain ⟨ga0, gv1⟩ := and_e gv0
  obtain ⟨ga1, gv2⟩ := and_e gv1
  obtain ⟨w0, w1, w2, rfl⟩ : ∃ w0 w1 w2 : Value, args = #[w0, w1, w2] := by
    have hs : args.size = 3 := by simpa [Cond.value, given_1] using gc
    obtain ⟨L⟩ := args
    match L, hs with
    | [w0, w1, w2], _ => exact ⟨w0, w1, w2, rfl⟩
  have hw := fun d (hd : d ∈ tables_1) => atoms_spec (ws := Jvm.Cond.code x code maxLocals ret :: tables_1) hat d (List.mem_cons_of_mem _ hd)
  have hfit : Fit s := fun {y c} hc i hi => by
    obtain ⟨ha, rfl⟩ := Array.getElem?_eq_some_iff.mp hc
    have q := List.all_eq_true.mp ((Array.all_eq_true_iff_forall_mem.mp hF) _ (Array.getElem_mem ha)) i (List.mem_range.mpr hi)
    simpa [Array.getElem?_eq_getElem hi] using q
  obtain ⟨i0, ei0⟩ := is_v ga0
  obtain rfl : w0 = (.int i0) := Option.some.inj ei0
  obtain ⟨i1, ei1⟩ := is_v ga1
  obtain rfl : w1 = (.int i1) := Option.some.inj ei1
  obtain ⟨i2, ei2⟩ := isL_v gv2
  obtain rfl : w2 = (.long i2) := Option.some.inj ei2
  obtain ⟨n, o, h1, h2, h3, _, L, rfl, ⟨rfl, N⟩, hq⟩ := rm0 l s _ hw tables_1 i0 i1 i2 s.heap s.heap.size (Nat.le_refl _) p e ha hc hk s m _ below hf ((Spec.applies_iff_loose hf).mp happ).1 ⟨rfl, State.Warmed39.refl s, rfl⟩ trivial
  refine ⟨n, _, h1, h2, h3, hpost _ _ _ _ _ _ ⟨Cond.after_iff.mpr rfl, Cond.after_iff.mpr (eq_i res_at (Term.int_eval (1)) rfl), trivial⟩ ⟨hq.1, hq.2.1, (hq.2.2.sift fun y hy => Or.inr (N y hy)).mono (by decide) (by decide)⟩⟩
theorem main_1_1 : Claimed_1_1 := comes_1 fun _ _ _ _ _ _ h hF => ⟨h.1, hF⟩
theorem main_1_2 : Claimed_1_2 := comes_1 fun _ _ _ _ _ _ h hF => ⟨h.2.1, hF⟩
end Jvm.Pilot.@@N@@
namespace Jvm.Pilot.@@N@@
open Jvm Jvm.ClassFile Sem Op Lib Jvm.Free Jvm.Stand Jvm.Pilot.@@N@@.Jvm.D
/-! MADE BY PROGRAM (witnessworld.py) out of the Statement's table words and the real class files: 11 classes; the members and pool entries that the words name. The judged class is class 1, her method 1. -/
namespace start1
open Jvm.ClassFile
def u (s : String) : CpInfo := .utf8 (stringToUtf16 s)
/-- a pool by its gaps: so many unusable entries, then the entry; so many at the end -/
def gap : Nat → List CpInfo → List CpInfo
  | 0, r => r
  | n + 1, r => .unusable :: gap n r
def poolList (es : List (Nat × CpInfo)) (last : Nat) : List CpInfo := es.foldr (fun e r => gap e.1 (e.2 :: r)) (gap last [])
def pool (es : List (Nat × CpInfo)) (last : Nat) : Array CpInfo := ⟨poolList es last⟩
def fileOf (pool : Array CpInfo) (this : Nat) (attrs : Array Attribute := #[]) (ms : Array MethodInfo := #[]) (fl : Nat := 33) (sup : Nat := 0) (ifs : Array Nat := #[]) (fds : Array FieldInfo := #[]) : ClassFile where
  minorVersion := 0
  majorVersion := 65
  constantPool := pool
  accessFlags := fl
  thisClass := this
  superClass := sup
  interfaces := ifs
  fields := fds
  methods := ms
  attributes := attrs
def plain (name : String) (sup : Option ClassId) : Class where
  name := name
  kind := .ordinary
  loader := none
  accessFlags := 33
  super := sup
  interfaces := #[]
  cf := none
  fields := #[]
  methods := #[]
  instanceTypes := #[]
  staticTypes := #[]
  resolved := #[]
  callSites := []
  init := .initialized
  statics := none
  mirror := none

def pool0 : Array CpInfo := pool [(5, u "<init>"), (0, u "()V"), (1, .class_ 10), (1, u "java/lang/Object")] 113

def k0m0 : Method := { name := "<init>", desc := "()V", sig := { parameters := [], returnType := none }, accessFlags := 1, code := none }
/-- java/lang/Object -/
def k0 : Class := { plain "java/lang/Object" none with
  accessFlags := 33
  interfaces := #[]
  cf := some (fileOf pool0 8 #[] #[{ accessFlags := 1, nameIndex := 5, descriptorIndex := 6, attributes := #[] }] 33 0 #[] #[])
  fields := #[]
  methods := #[k0m0]
  instanceTypes := #[]
  staticTypes := #[]
  resolved := Array.replicate 124 none
  statics := none }

def pool1 : Array CpInfo := pool [(2, .class_ 4), (1, u "java/lang/Object"), (0, u "<init>"), (0, u "()V"), (0, .integer 2147483647), (0, .methodref 9 10), (0, .class_ 11), (0, .nameAndType 12 13), (0, u "com/example/halyard/halyard/BinaryEncoder"), (0, u "putInt32"), (0, u "([BII)V"), (0, .methodref 15 16), (0, .class_ 17), (0, .nameAndType 18 19), (0, u "com/example/halyard/halyard/BinaryEncoderPutInt32PinLaw"), (0, u "untouched"), (0, u "([BIIJ)Z"), (2, u "law"), (0, u "(IIJ)Z")] 5

def k1m0 : Method := { name := "<init>", desc := "()V", sig := { parameters := [], returnType := none }, accessFlags := 1, code := none }
def k1c1 : Code := { maxStack := 5, maxLocals := 8, code := code, exceptionTable := #[], attributes := #[] }
def k1m1 : Method := { name := "law", desc := "(IIJ)Z", sig := { parameters := [.int, .int, .long], returnType := some .boolean }, accessFlags := 9, code := some k1c1 }
def k1c2 : Code := { maxStack := 5, maxLocals := 5, code := method_3_code, exceptionTable := #[], attributes := #[] }
def k1m2 : Method := { name := "untouched", desc := "([BIIJ)Z", sig := { parameters := [(.array .byte), .int, .int, .long], returnType := some .boolean }, accessFlags := 10, code := some k1c2 }
/-- com/example/halyard/halyard/BinaryEncoderPutInt32PinLaw -/
def k1 : Class := { plain "com/example/halyard/halyard/BinaryEncoderPutInt32PinLaw" (some 0) with
  accessFlags := 49
  interfaces := #[]
  cf := some (fileOf pool1 15 #[] #[{ accessFlags := 1, nameIndex := 5, descriptorIndex := 6, attributes := #[] }, { accessFlags := 9, nameIndex := 22, descriptorIndex := 23, attributes := #[] }, { accessFlags := 10, nameIndex := 18, descriptorIndex := 19, attributes := #[] }] 49 2 #[] #[])
  fields := #[]
  methods := #[k1m0, k1m1, k1m2]
  instanceTypes := #[]
  staticTypes := #[]
  resolved := Array.replicate 29 none
  statics := none }

def pool2 : Array CpInfo := pool [(1, .class_ 2), (0, u "org/ccsds/moims/mo/mal/MALEncoder"), (0, .class_ 4), (0, u "java/lang/Object")] 71

/-- org/ccsds/moims/mo/mal/MALEncoder -/
def k2 : Class := { plain "org/ccsds/moims/mo/mal/MALEncoder" (some 0) with
  accessFlags := 1537
  interfaces := #[]
  cf := some (fileOf pool2 1 #[] #[] 1537 3 #[] #[])
  fields := #[]
  methods := #[]
  instanceTypes := #[]
  staticTypes := #[]
  resolved := Array.replicate 76 none
  statics := none }

def pool3 : Array CpInfo := pool [(1, .class_ 2), (0, u "org/ccsds/moims/mo/mal/MALListEncoder"), (0, .class_ 4), (0, u "java/lang/Object"), (0, .class_ 6), (0, u "org/ccsds/moims/mo/mal/MALEncoder")] 4

/-- org/ccsds/moims/mo/mal/MALListEncoder -/
def k3 : Class := { plain "org/ccsds/moims/mo/mal/MALListEncoder" (some 0) with
  accessFlags := 1537
  interfaces := #[2]
  cf := some (fileOf pool3 1 #[] #[] 1537 3 #[5] #[])
  fields := #[]
  methods := #[]
  instanceTypes := #[]
  staticTypes := #[]
  resolved := Array.replicate 11 none
  statics := none }

def pool4 : Array CpInfo := pool [(2, .class_ 4), (1, u "java/lang/Object"), (2, .class_ 8), (0, u "com/example/halyard/halyard/BinaryEncoder$Octets"), (0, .class_ 10), (0, u "com/example/halyard/halyard/BinaryEncoder"), (5, u "octets"), (0, u "Lcom/example/halyard/halyard/BinaryEncoder$Octets;"), (2, u "bits"), (13, u "bitCount"), (0, u "I"), (237, u "putInt32"), (0, u "([BII)V"), (63, .class_ 340), (1, u "com/example/halyard/halyard/BinaryEncoder$Part"), (5, .class_ 347), (0, u "org/ccsds/moims/mo/mal/MALListEncoder"), (0, u "CDS_EPOCH_OFFSET_DAYS"), (0, u "J"), (1, u "MILLISECONDS_PER_DAY"), (0, u "MAX_CDS_DAY"), (0, u "CDS_OCTETS"), (1, u "NANOSECONDS_PER_MILLISECOND"), (0, u "OCTETS_CAPACITY"), (1, u "BITS_CAPACITY"), (1, u "COUNTED_CAPACITY"), (1, u "KEPT_CAPACITY")] 65

def k4c0 : Code := { maxStack := 4, maxLocals := 3, code := prog_9_method_40_code, exceptionTable := #[], attributes := #[] }
def k4m0 : Method := { name := "putInt32", desc := "([BII)V", sig := { parameters := [(.array .byte), .int, .int], returnType := none }, accessFlags := 8, code := some k4c0 }
/-- com/example/halyard/halyard/BinaryEncoder -/
def k4 : Class := { plain "com/example/halyard/halyard/BinaryEncoder" (some 0) with
  accessFlags := 48
  interfaces := #[3]
  cf := some (fileOf pool4 9 #[.nestMembers #[338, 7]] #[{ accessFlags := 8, nameIndex := 273, descriptorIndex := 274, attributes := #[] }] 48 2 #[346] #[{ accessFlags := 24, nameIndex := 348, descriptorIndex := 349, attributes := #[] }, { accessFlags := 24, nameIndex := 351, descriptorIndex := 349, attributes := #[] }, { accessFlags := 24, nameIndex := 352, descriptorIndex := 349, attributes := #[] }, { accessFlags := 24, nameIndex := 353, descriptorIndex := 35, attributes := #[] }, { accessFlags := 24, nameIndex := 355, descriptorIndex := 349, attributes := #[] }, { accessFlags := 26, nameIndex := 356, descriptorIndex := 35, attributes := #[] }, { accessFlags := 26, nameIndex := 358, descriptorIndex := 35, attributes := #[] }, { accessFlags := 26, nameIndex := 360, descriptorIndex := 35, attributes := #[] }, { accessFlags := 26, nameIndex := 362, descriptorIndex := 35, attributes := #[] }, { accessFlags := 2, nameIndex := 16, descriptorIndex := 17, attributes := #[] }, { accessFlags := 18, nameIndex := 20, descriptorIndex := 17, attributes := #[] }, { accessFlags := 2, nameIndex := 34, descriptorIndex := 35, attributes := #[] }])
  fields := #[{ name := "CDS_EPOCH_OFFSET_DAYS", type := .long, accessFlags := 24, slot := 0, constantValue := 0 }, { name := "MILLISECONDS_PER_DAY", type := .long, accessFlags := 24, slot := 1, constantValue := 0 }, { name := "MAX_CDS_DAY", type := .long, accessFlags := 24, slot := 2, constantValue := 0 }, { name := "CDS_OCTETS", type := .int, accessFlags := 24, slot := 3, constantValue := 0 }, { name := "NANOSECONDS_PER_MILLISECOND", type := .long, accessFlags := 24, slot := 4, constantValue := 0 }, { name := "OCTETS_CAPACITY", type := .int, accessFlags := 26, slot := 5, constantValue := 0 }, { name := "BITS_CAPACITY", type := .int, accessFlags := 26, slot := 6, constantValue := 0 }, { name := "COUNTED_CAPACITY", type := .int, accessFlags := 26, slot := 7, constantValue := 0 }, { name := "KEPT_CAPACITY", type := .int, accessFlags := 26, slot := 8, constantValue := 0 }, { name := "octets", type := (.object "com/example/halyard/halyard/BinaryEncoder$Octets"), accessFlags := 2, slot := 0, constantValue := 0 }, { name := "bits", type := (.object "com/example/halyard/halyard/BinaryEncoder$Octets"), accessFlags := 18, slot := 1, constantValue := 0 }, { name := "bitCount", type := .int, accessFlags := 2, slot := 2, constantValue := 0 }]
  methods := #[k4m0]
  instanceTypes := #[(.object "com/example/halyard/halyard/BinaryEncoder$Octets"), (.object "com/example/halyard/halyard/BinaryEncoder$Octets"), .int]
  staticTypes := #[.long, .long, .long, .int, .long, .int, .int, .int, .int]
  resolved := Array.replicate 428 none
  statics := none }

def pool5 : Array CpInfo := pool [(1, u "java/lang/Cloneable"), (0, .class_ 1), (0, u "java/lang/Object"), (0, .class_ 3)] 3

/-- java/lang/Cloneable -/
def k5 : Class := { plain "java/lang/Cloneable" (some 0) with
  accessFlags := 1537
  interfaces := #[]
  cf := some (fileOf pool5 2 #[] #[] 1537 4 #[] #[])
  fields := #[]
  methods := #[]
  instanceTypes := #[]
  staticTypes := #[]
  resolved := Array.replicate 8 none
  statics := none }

def pool6 : Array CpInfo := pool [(1, u "java/io/Serializable"), (0, .class_ 1), (0, u "java/lang/Object"), (0, .class_ 3)] 3

/-- java/io/Serializable -/
def k6 : Class := { plain "java/io/Serializable" (some 0) with
  accessFlags := 1537
  interfaces := #[]
  cf := some (fileOf pool6 2 #[] #[] 1537 4 #[] #[])
  fields := #[]
  methods := #[]
  instanceTypes := #[]
  staticTypes := #[]
  resolved := Array.replicate 8 none
  statics := none }

/-- the primitive byte -/
def k7 : Class := { plain "byte" none with kind := .primitive 'B', accessFlags := 0x411 }
/-- [B -/
def k8 : Class := { plain "[B" (some 0) with kind := .array 7 .byte, interfaces := #[5, 6], accessFlags := 1041 }

/-- the primitive int -/
def k9 : Class := { plain "int" none with kind := .primitive 'I', accessFlags := 0x411 }
/-- [I -/
def k10 : Class := { plain "[I" (some 0) with kind := .array 9 .int, interfaces := #[5, 6], accessFlags := 1041 }

def heap : Heap := #[]
def classes : Array Class := #[k0, k1, k2, k3, k4, k5, k6, k7, k8, k9, k10]
def interned : List (Array UInt16 × Addr) := []
def slotsUsed : Nat := 0
def theMethod : MethodId := ⟨1, 1⟩
def args0 : Array Value := #[.int 5, .int 3, .long 2]
def aboutOver (below : List Frame) : State where
  vm := { classes := classes, interned := interned.toArray }
  heap := heap
  slotsUsed := slotsUsed
  threads := #[{ frames := .invoking theMethod args0 :: below }]
def below0 : List Frame := [.native { method := ⟨0, 0⟩, args := #[] }]
def about1 : State := aboutOver below0
def p0 : Program := .bare "" "" ""
def e0 : Env := launch0.env 0 0 0
theorem w_frames : about1.frames = Frame.invoking theMethod args0 :: below0 := rfl
set_option maxRecDepth 65536 in
theorem w_args : argsFit about1.vm theMethod args0 = true := by decide +kernel
set_option maxRecDepth 65536 in
theorem w_heap : heapFits about1 = true := by decide +kernel
set_option maxRecDepth 65536 in
theorem w_runnable : about1.curStatus? = some .runnable := by decide +kernel
set_option maxRecDepth 65536 in
theorem w_alone : about1.alone = true := by decide +kernel
set_option maxRecDepth 65536 in
theorem w_named : about1.methodNamed? x = some theMethod := by decide +kernel
set_option maxRecDepth 65536 in
theorem w_hears : about1.hears theMethod below0 = true := by decide +kernel
set_option maxRecDepth 65536 in
theorem w_ripe : about1.ripe theMethod args0 below0 = true := by decide +kernel
theorem w_running : about1.status = .running := rfl
set_option maxRecDepth 65536 in
theorem w_room : about1.hasRoom e0.platform room_1 = true :=
  launch0.hasRoom_least _ room_1 (by decide +kernel) (by decide +kernel) (by decide +kernel) (by decide +kernel) (by decide +kernel) (by decide +kernel)
theorem allAtoms_all (ts : List Jvm.Cond) (a : Array Jvm.Value) (st : Jvm.State) : (allAtoms ts).before a st = ts.all (fun c => c.before a st) := by
  induction ts with
  | nil => rfl
  | cons c t ih =>
    show (Jvm.Cond.and c (allAtoms t)).before a st = _
    rw [Jvm.Cond.before_and, ih, List.all_cons]
def words1 : List Jvm.Cond := Jvm.Cond.code x code maxLocals ret :: tables_1
/-- a 'code' word, met by the world's own term for the bytes: nothing is compared byte by byte -/
theorem code_word {y : MethodName} {bytes : ByteArray} {mx : Nat} {rt : Option FieldType} {a : Array Value} {s : State} {m : MethodId} {meth : Method} {c : Code} (h1 : s.methodNamed? y = some m) (h2 : s.vm.method? m = some meth) (h3 : meth.code = some c) (h4 : c.code = bytes)
    (h5 : (c.maxLocals == mx && c.exceptionTable.isEmpty && decide (c.maxStack ≤ mostOperands) && decide (meth.sig.returnType = rt) && !meth.locks && decide (parseMethodDescriptor y.desc = some meth.sig)) = true) : (Jvm.Cond.code y bytes mx rt).before a s = true := by
  simp only [Bool.and_eq_true, beq_iff_eq, Bool.not_eq_true', decide_eq_true_eq] at h5
  obtain ⟨⟨⟨⟨⟨g1, g2⟩, g3⟩, g4⟩, g5⟩, g6⟩ := h5
  simp [Cond.before, Cond.holds, Cond.value, h1, h2, h3, h4, g1, g2, g3, g4, g5, g6]
def isCode : Jvm.Cond → Bool
  | .code _ _ _ _ => true
  | _ => false
theorem all_split {L : List Jvm.Cond} {P : Jvm.Cond → Bool} (h1 : L.all (fun c => isCode c || P c) = true) (h2 : ∀ c ∈ L.filter isCode, P c = true) : L.all P = true := by
  refine List.all_eq_true.mpr fun c hc => ?_
  have h := List.all_eq_true.mp h1 c hc
  rcases Bool.eq_false_or_eq_true (isCode c) with hi | hi
  · exact h2 c (List.mem_filter.mpr ⟨hc, hi⟩)
  · simpa [hi] using h
set_option maxRecDepth 65536 in
theorem w_c0 : (Jvm.Cond.code x code maxLocals ret).before args0 about1 = true := code_word (m := ⟨1, 1⟩) (meth := k1m1) (c := k1c1) (by decide +kernel) rfl rfl rfl (by decide +kernel)
set_option maxRecDepth 65536 in
theorem w_c1 : (Jvm.Cond.code ({ cls := "com/example/halyard/halyard/BinaryEncoder", name := "putInt32", desc := "([BII)V" } : Jvm.MethodName) prog_9_method_40_code (3 : Nat) (Option.none : Option Jvm.ClassFile.FieldType)).before args0 about1 = true := code_word (m := ⟨4, 0⟩) (meth := k4m0) (c := k4c0) (by decide +kernel) rfl rfl rfl (by decide +kernel)
set_option maxRecDepth 65536 in
theorem w_c2 : (Jvm.Cond.code ({ cls := "com/example/halyard/halyard/BinaryEncoderPutInt32PinLaw", name := "untouched", desc := "([BIIJ)Z" } : Jvm.MethodName) method_3_code (5 : Nat) (Option.some Jvm.ClassFile.FieldType.boolean)).before args0 about1 = true := code_word (m := ⟨1, 2⟩) (meth := k1m2) (c := k1c2) (by decide +kernel) rfl rfl rfl (by decide +kernel)
def codes1 : List Jvm.Cond := [Jvm.Cond.code x code maxLocals ret, Jvm.Cond.code ({ cls := "com/example/halyard/halyard/BinaryEncoder", name := "putInt32", desc := "([BII)V" } : Jvm.MethodName) prog_9_method_40_code (3 : Nat) (Option.none : Option Jvm.ClassFile.FieldType), Jvm.Cond.code ({ cls := "com/example/halyard/halyard/BinaryEncoderPutInt32PinLaw", name := "untouched", desc := "([BIIJ)Z" } : Jvm.MethodName) method_3_code (5 : Nat) (Option.some Jvm.ClassFile.FieldType.boolean)]
set_option maxRecDepth 65536 in
theorem codes_eq : words1.filter isCode = codes1 := rfl
theorem w_codes : ∀ c ∈ words1.filter isCode, c.before args0 about1 = true := by
  rw [codes_eq]
  intro c hc
  simp only [codes1, List.mem_cons, List.not_mem_nil, or_false] at hc
  rcases hc with rfl | rfl | rfl
  · exact w_c0
  · exact w_c1
  · exact w_c2
set_option maxRecDepth 65536 in
theorem w_t1 : words1.all (fun c => isCode c || c.before args0 about1) = true := by decide +kernel
theorem w_tables : (allAtoms (Jvm.Cond.code x code maxLocals ret :: tables_1)).before args0 about1 = true := by
  rw [allAtoms_all]
  show words1.all (fun c => c.before args0 about1) = true
  refine all_split ?_ w_codes
  rw [w_t1]
set_option maxRecDepth 65536 in
theorem w_case : (Jvm.Cond.and given_1 narrow_1).before args0 about1 = true := by decide +kernel
theorem w_applies : (headSpec (Jvm.Cond.code x code maxLocals ret :: tables_1) room_1).applies x e0.platform about1 = true :=
  (Spec.applies_iff w_frames).mpr ⟨w_running, w_runnable, w_alone, w_named, w_hears, w_ripe, w_room, w_tables⟩
theorem atStart : AtStart classFile x code maxLocals ret World_1 tables_1 room_1 Calls_1 rest_1 Pre_1 launch0 p0 e0 about1 theMethod args0 below0 :=
  ⟨lists_1, trivial, launch0.admits_env _ _ _, launch0.least_env, fairChoices_fair.cas, fairChoices_fair.clock, w_frames, w_args, w_heap, w_applies, trivial, trivial, w_case⟩
end start1
theorem witness_1 : WitnessClaimed_1 := ⟨start1.p0, start1.e0, start1.about1, start1.theMethod, start1.args0, start1.below0, start1.atStart⟩
end Jvm.Pilot.@@N@@
