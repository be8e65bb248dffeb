import JvmDerived
import JvmDerived.Pilot.@@N@@Statement
import JvmDerived.Pilot.@@N@@Code
set_option linter.unusedVariables false
set_option linter.unusedSimpArgs false
@@BLOCK:NumsL.lean.txt@@
namespace Jvm.RoadKit
open Sem ClassFile Op Lib Jvm.Stand Jvm.Free Jvm.LawKit
section New
variable {p : Program} {l : Launch} {e : Env} {R : Room} {s : State} {m : MethodId} {args : Array Value} {below : List Frame} {meth : Method} {c : Code} {T : State} {locs : List Loc} {cells slots : Nat}
theorem retI (X : Stand p l e R s m args below meth c T locs cells slots) (hx : p.tables.exec = Jvm.exec) {pc : Nat} {Ls : Array Slot} {z : Int32} {rest : List Value} (hret : meth.sig.returnType = some .int) (hd : decode c.code pc = .ok (.ireturn, 1)) {fs : List Frame}
    (hl : ∀ (f : JFrame) (acts : List Action), f.method = m → f.locked = none → f.entered = [] → (doReturn e (T.setTop f) acts (some (.int z))).1 = T.setFrames fs) : Steps p.tables e below (T.setTop (mkF m pc Ls (.int z :: rest))) (T.setFrames fs) := by
  have hm' : T.vm.method? m = some meth := X.method'
  have hn : narrow .int (.int z) = .int z := rfl
  show Steps p.tables e below (T.setTop { method := m, pc := pc, locals := Ls, stack := _ :: rest, locked := none }) _
  jvm_step X.here [X.here.top, hx, hd, hm', hret, hn]
  first | (intro acts; rw [hl _ acts rfl rfl rfl]) | rw [hl _ _ rfl rfl rfl]
  exact Steps.refl _
end New
end Jvm.RoadKit
/- laws to paste: Road.backV, Road.lenW, Road.chN, Road.empW, Road.codOf (cut by pick.py; bodies as the Statement names them) -/
namespace Jvm.Pilot.@@N@@
namespace StrChars
open Jvm Sem ClassFile Op Lib Jvm.Stand Jvm.Free.XT Jvm.Free.ALB Jvm.Free.JM Jvm.Free
open Jvm.Lib.Cold (StaticIs)
/-- a char array whose places are chars -/
def Ch (a : Addr) (A : Cell) (U : State) : Prop := Arr .char a A U ∧ Typed .char A
theorem Ch.mv {a : Addr} {A : Cell} {U U' : State} (h : Ch a A U) (hal : U.vm.Alike U'.vm) (hh : U'.heap = U.heap) : Ch a A U' := ⟨h.1.mv hal hh, h.2⟩
theorem Ch.keep {a : Addr} {A : Cell} {U U' : State} (h : Ch a A U) (hal : U.vm.Alike U'.vm) (hk : U'.heap[a]? = some A) : Ch a A U' := ⟨h.1.keep hal hk, h.2⟩
/-- what place i of a char[]'s cell holds -/
def cv (A : Cell) (i : Nat) : Int32 := match A.slots[i]? with | some (.int x) => x | _ => 0
theorem Ch.get {a : Addr} {A : Cell} {U : State} (h : Ch a A U) {i : Nat} (hi : i < A.slots.size) : A.slots[i]? = some (.int (cv A i)) := by
  have e := Array.getElem?_eq_getElem hi
  have f := h.2 i _ e
  unfold cv; rw [e]
  generalize A.slots[i] = v at f
  cases v <;> simp [fits] at f ⊢
/-- the byte that i2b leaves of a char -/
def lo8 (x : Int32) : Int32 := x.toInt8.toInt32
theorem fits_lo8 (y : Int32) : fits .byte (.int (lo8 y)) = true := by
  have h1 := y.toInt8.le_toInt
  have h2 := y.toInt8.toInt_lt
  simp only [lo8, fits, Bool.and_eq_true, decide_eq_true_eq, Int32.le_iff_toInt_le, Int8.toInt_toInt32, show (-128 : Int32).toInt = -128 from by decide, show (127 : Int32).toInt = 127 from by decide]
  omega
/-- A' is A but that each place j of lo .. hi - 1 holds f j -/
def Laid (A A' : Cell) (lo hi : Nat) (f : Nat → Value) : Prop := A'.cls = A.cls ∧ A'.vm = A.vm ∧ A'.slots.size = A.slots.size ∧ ∀ i, A'.slots[i]? = if lo ≤ i ∧ i < hi then some (f i) else A.slots[i]?
theorem Laid.zero (A : Cell) (lo : Nat) (f : Nat → Value) : Laid A A lo (lo + 0) f := ⟨rfl, rfl, rfl, fun i => by rw [if_neg (by omega)]⟩
theorem Laid.step {A Ak : Cell} {lo k : Nat} {f : Nat → Value} {v : Value} (h : Laid A Ak lo k f) (hlo : lo ≤ k) (hk : k < Ak.slots.size) (hv : v = f k) : Laid A (Ak.setSlot k v) lo (k + 1) f := by
  refine ⟨h.1, h.2.1, by simpa [Cell.setSlot] using h.2.2.1, fun i => ?_⟩
  by_cases e : k = i
  · subst e; rw [Cell.slots_setSlot_self v hk, if_pos (by omega), hv]
  · rw [Cell.slots_setSlot_ne v e, h.2.2.2 i]
    by_cases q : lo ≤ i ∧ i < k
    · rw [if_pos q, if_pos (by omega)]
    · rw [if_neg q, if_neg (by omega)]
def U16 : String := "java/lang/StringUTF16"
namespace Cmp5
def yN : MethodName := ⟨"java/lang/StringUTF16", "compress", "([CI[BII)I"⟩
abbrev yB : ByteArray := jdk_52_method_21_code
theorem d0 : decode yB 0 = .ok (.iconst 0, 1) := by decide +kernel
theorem d1 : decode yB 1 = .ok (.istore 5, 2) := by decide +kernel
theorem d3 : decode yB 3 = .ok (.iload 5, 2) := by decide +kernel
theorem d5 : decode yB 5 = .ok (.iload 4, 2) := by decide +kernel
theorem d7 : decode yB 7 = .ok (.if_icmp (.ge) 37, 3) := by decide +kernel
theorem d10 : decode yB 10 = .ok (.aload_n 0, 1) := by decide +kernel
theorem d11 : decode yB 11 = .ok (.iload_n 1, 1) := by decide +kernel
theorem d12 : decode yB 12 = .ok (.caload, 1) := by decide +kernel
theorem d13 : decode yB 13 = .ok (.istore 6, 2) := by decide +kernel
theorem d15 : decode yB 15 = .ok (.iload 6, 2) := by decide +kernel
theorem d17 : decode yB 17 = .ok (.sipush 255, 3) := by decide +kernel
theorem d20 : decode yB 20 = .ok (.if_icmp (.le) 6, 3) := by decide +kernel
theorem d26 : decode yB 26 = .ok (.aload_n 2, 1) := by decide +kernel
theorem d27 : decode yB 27 = .ok (.iload_n 3, 1) := by decide +kernel
theorem d28 : decode yB 28 = .ok (.iload 6, 2) := by decide +kernel
theorem d30 : decode yB 30 = .ok (.i2b, 1) := by decide +kernel
theorem d31 : decode yB 31 = .ok (.bastore, 1) := by decide +kernel
theorem d32 : decode yB 32 = .ok (.iinc 1 1, 3) := by decide +kernel
theorem d35 : decode yB 35 = .ok (.iinc 3 1, 3) := by decide +kernel
theorem d38 : decode yB 38 = .ok (.iinc 5 1, 3) := by decide +kernel
theorem d41 : decode yB 41 = .ok (.goto (-38), 3) := by decide +kernel
theorem d44 : decode yB 44 = .ok (.iload 4, 2) := by decide +kernel
theorem d46 : decode yB 46 = .ok (.ireturn, 1) := by decide +kernel
def site : List Cond := []
def tab : Cond := tabOf yN yB 7 (some .int) site
def P (b : Addr) (A : Cell) (d : Addr) (B : Cell) (o q len : Nat) (args : Array Value) (s : State) : Prop := args = #[.ref b, .int (Int32.ofNat o), .ref d, .int (Int32.ofNat q), .int (Int32.ofNat len)] ∧ Ch b A s ∧ Arr .byte d B s ∧ b ≠ d ∧ o + len ≤ A.slots.size ∧ q + len ≤ B.slots.size ∧ ∀ i, i < len → ¬ 255 < cv A (o + i)
def E (b : Addr) (A : Cell) (d : Addr) (B : Cell) (o q len : Nat) (r : Option Value) (s u : State) : Prop := r = some (.int (Int32.ofNat len)) ∧ ∃ B', Put d B' s u ∧ Laid B B' q (q + len) (fun j => Value.int (lo8 (cv A (o + (j - q)))))
/-- no char of the range above 255: len; the places written hold each char's low byte -/
theorem law (l : Launch) (b : Addr) (A : Cell) (d : Addr) (B : Cell) (o q len : Nat) : Law l yN 5 5 0 0 yB 7 (some .int) site (P b A d B o q len) (E b A d B o q len) (copyLocs d q len) 0 0 := by
  refine Law.of_walk (plainFor_of_name (by decide +kernel)) (by decide +kernel) (by decide +kernel) (by decide) (fun _ _ h => by rw [h.1]; rfl) (fun _ U U' hal hh h => ⟨h.1, h.2.1.mv hal hh, h.2.2.1.mv hal hh, h.2.2.2⟩) (fun r U U' V V' h1 hal h2 h => ⟨h.1, h.2.elim fun B' q => ⟨B', q.1.mv h1 h2, q.2⟩⟩) ?_
  intro p e s m args below meth c s₁ X0 hexec hbytes hml hret hlk hnm hown hh0 W hP
  obtain ⟨rfl, hA, hB, hne, l1, l2, hp⟩ := hP
  have c1 : Steps p.tables e below (s₁.setTop (entryFrame m #[.ref b, .int (Int32.ofNat o), .ref d, .int (Int32.ofNat q), .int (Int32.ofNat len)] 7)) (s₁.setTop (mkF m 0 #[.val (.ref b), .val (.int (Int32.ofNat o)), .val (.ref d), .val (.int (Int32.ofNat q)), .val (.int (Int32.ofNat len)), .unset, .unset] [])) := entry rfl
  have hA0 := hA.1.mv X0.warmed.alike hh0
  have hB0 := hB.mv X0.warmed.alike hh0
  have a31 := hA.1.2.2.2
  have c2 : Steps p.tables e below (s₁.setTop (entryFrame m #[.ref b, .int (Int32.ofNat o), .ref d, .int (Int32.ofNat q), .int (Int32.ofNat len)] 7)) (s₁.setTop (mkF m 3 #[.val (.ref b), .val (.int (Int32.ofNat o)), .val (.ref d), .val (.int (Int32.ofNat q)), .val (.int (Int32.ofNat len)), .val (.int 0), .unset] [])) := c1.trans (by
    refine iconstV X0.here hexec rfl 0 (hb hbytes d0) (by decide) ?_
    refine XS.istore X0.here hexec rfl (hb hbytes d1) rfl rfl ?_
    exact Steps.refl _)
  have loop : ∀ (r i : Nat), i + r = len → ∀ (z : Slot), (z = .unset ∨ ∃ w, z = .val w ∧ w.category = 1) → ∀ (Tl : State) (Bk : Cell), Stand p l e { frames := 0, locals := 0, cells := 0, slots := 0 } s m #[.ref b, .int (Int32.ofNat o), .ref d, .int (Int32.ofNat q), .int (Int32.ofNat len)] below meth c Tl ([] ++ copyLocs d q i) 0 0 → Put d Bk s₁ Tl → Laid B Bk q (q + i) (fun j => Value.int (lo8 (cv A (o + (j - q))))) →
      Steps p.tables e below (s₁.setTop (entryFrame m #[.ref b, .int (Int32.ofNat o), .ref d, .int (Int32.ofNat q), .int (Int32.ofNat len)] 7)) (Tl.setTop (mkF m 3 #[.val (.ref b), .val (.int (Int32.ofNat (o + i))), .val (.ref d), .val (.int (Int32.ofNat (q + i))), .val (.int (Int32.ofNat len)), .val (.int (Int32.ofNat i)), z] [])) → ∃ (T' : State) (B' : Cell) (z' : Slot), Stand p l e { frames := 0, locals := 0, cells := 0, slots := 0 } s m #[.ref b, .int (Int32.ofNat o), .ref d, .int (Int32.ofNat q), .int (Int32.ofNat len)] below meth c T' ([] ++ copyLocs d q len) 0 0 ∧ Put d B' s₁ T' ∧ Laid B B' q (q + len) (fun j => Value.int (lo8 (cv A (o + (j - q))))) ∧
      Steps p.tables e below (s₁.setTop (entryFrame m #[.ref b, .int (Int32.ofNat o), .ref d, .int (Int32.ofNat q), .int (Int32.ofNat len)] 7)) (T'.setTop (mkF m 3 #[.val (.ref b), .val (.int (Int32.ofNat (o + len))), .val (.ref d), .val (.int (Int32.ofNat (q + len))), .val (.int (Int32.ofNat len)), .val (.int (Int32.ofNat len)), z'] [])) := by
    intro r
    induction r with
    | zero =>
      intro i hi z hz Tl Bk Xl pl fl cl
      have hil : i = len := by omega
      rw [hil] at Xl fl cl
      exact ⟨Tl, Bk, z, Xl, pl, fl, cl⟩
    | succ r ih =>
      intro i hi z hz Tl Bk Xl pl fl cl
      have all := X0.warmed.alike.symm.trans Xl.warmed.alike
      have hAl := hA0.keep all (pl.other hne hA0.1)
      have hBk := hB0.like all pl.1 fl.1 fl.2.1 fl.2.2.1
      have hlt : q + i < Bk.slots.size := by rw [fl.2.2.1]; omega
      have c3 : Steps p.tables e below (s₁.setTop (entryFrame m #[.ref b, .int (Int32.ofNat o), .ref d, .int (Int32.ofNat q), .int (Int32.ofNat len)] 7)) (Tl.setTop (mkF m 12 #[.val (.ref b), .val (.int (Int32.ofNat (o + i))), .val (.ref d), .val (.int (Int32.ofNat (q + i))), .val (.int (Int32.ofNat len)), .val (.int (Int32.ofNat i)), z] [.int (Int32.ofNat (o + i)), .ref b])) := cl.trans (by
        refine XS.iload Xl.here hexec rfl (hb hbytes d3) rfl ?_
        refine XS.iload Xl.here hexec rfl (hb hbytes d5) rfl ?_
        refine XS.icmpNo Xl.here hexec rfl (hb hbytes d7) rfl (ii_ge_f (lt32 (by omega) (by omega))) ?_
        refine XS.aloadN Xl.here hexec rfl (hb hbytes d10) rfl rfl ?_
        refine XS.iloadN Xl.here hexec rfl (hb hbytes d11) rfl ?_
        exact Steps.refl _)
      have c4 : Steps p.tables e below (s₁.setTop (entryFrame m #[.ref b, .int (Int32.ofNat o), .ref d, .int (Int32.ofNat q), .int (Int32.ofNat len)] 7)) (Tl.setTop (mkF m 13 #[.val (.ref b), .val (.int (Int32.ofNat (o + i))), .val (.ref d), .val (.int (Int32.ofNat (q + i))), .val (.int (Int32.ofNat len)), .val (.int (Int32.ofNat i)), z] [.int (cv A (o + i))])) := c3.trans (by
        refine Xl.aget hexec hAl rfl (hA.get (i := o + i) (by omega)) rfl rfl (hb hbytes d12) ?_
        exact Steps.refl _)
      have c5 : Steps p.tables e below (s₁.setTop (entryFrame m #[.ref b, .int (Int32.ofNat o), .ref d, .int (Int32.ofNat q), .int (Int32.ofNat len)] 7)) (Tl.setTop (mkF m 15 #[.val (.ref b), .val (.int (Int32.ofNat (o + i))), .val (.ref d), .val (.int (Int32.ofNat (q + i))), .val (.int (Int32.ofNat len)), .val (.int (Int32.ofNat i)), .val (.int (cv A (o + i)))] [])) := c4.trans (by
        refine XS.istoreS Xl.here hexec rfl (hb hbytes d13) rfl rfl hz ?_
        exact Steps.refl _)
      have c6 : Steps p.tables e below (s₁.setTop (entryFrame m #[.ref b, .int (Int32.ofNat o), .ref d, .int (Int32.ofNat q), .int (Int32.ofNat len)] 7)) (Tl.setTop (mkF m 31 #[.val (.ref b), .val (.int (Int32.ofNat (o + i))), .val (.ref d), .val (.int (Int32.ofNat (q + i))), .val (.int (Int32.ofNat len)), .val (.int (Int32.ofNat i)), .val (.int (cv A (o + i)))] [.int (lo8 (cv A (o + i))), .int (Int32.ofNat (q + i)), .ref d])) := c5.trans (by
        refine XS.iload Xl.here hexec rfl (hb hbytes d15) rfl ?_
        refine sipushV Xl.here hexec rfl 255 (hb hbytes d17) (by decide) ?_
        refine XS.icmpYes Xl.here hexec rfl (pc0 := 20) rfl (hb hbytes d20) rfl (ii_le_t (hp i (by omega))) (by decide) rfl ?_
        refine XS.aloadN Xl.here hexec rfl (hb hbytes d26) rfl rfl ?_
        refine XS.iloadN Xl.here hexec rfl (hb hbytes d27) rfl ?_
        refine XS.iload Xl.here hexec rfl (hb hbytes d28) rfl ?_
        refine i2b Xl.here hexec rfl (hb hbytes d30) rfl ?_
        exact Steps.refl _)
      obtain ⟨T7, X7, p7, st7⟩ := Xl.aput hexec hBk rfl hlt rfl (fits_lo8 (cv A (o + i))) (g := (mkF m 31 #[.val (.ref b), .val (.int (Int32.ofNat (o + i))), .val (.ref d), .val (.int (Int32.ofNat (q + i))), .val (.int (Int32.ofNat len)), .val (.int (Int32.ofNat i)), .val (.int (cv A (o + i)))] [.int (lo8 (cv A (o + i))), .int (Int32.ofNat (q + i)), .ref d])) rfl (rest := []) rfl (hb hbytes d31)
      have c8 : Steps p.tables e below (s₁.setTop (entryFrame m #[.ref b, .int (Int32.ofNat o), .ref d, .int (Int32.ofNat q), .int (Int32.ofNat len)] 7)) (T7.setTop (mkF m 32 #[.val (.ref b), .val (.int (Int32.ofNat (o + i))), .val (.ref d), .val (.int (Int32.ofNat (q + i))), .val (.int (Int32.ofNat len)), .val (.int (Int32.ofNat i)), .val (.int (cv A (o + i)))] [])) := c6.trans (st7 _ (Steps.refl _))
      have c9 : Steps p.tables e below (s₁.setTop (entryFrame m #[.ref b, .int (Int32.ofNat o), .ref d, .int (Int32.ofNat q), .int (Int32.ofNat len)] 7)) (T7.setTop (mkF m 3 #[.val (.ref b), .val (.int (Int32.ofNat (o + i) + 1)), .val (.ref d), .val (.int (Int32.ofNat (q + i) + 1)), .val (.int (Int32.ofNat len)), .val (.int (Int32.ofNat i + 1)), .val (.int (cv A (o + i)))] [])) := c8.trans (by
        refine iincV X7.here hexec rfl 1 (hb hbytes d32) (by decide) rfl rfl ?_
        refine iincV X7.here hexec rfl 1 (hb hbytes d35) (by decide) rfl rfl ?_
        refine iincV X7.here hexec rfl 1 (hb hbytes d38) (by decide) rfl rfl ?_
        refine XS.goto X7.here hexec rfl (pc0 := 41) rfl (hb hbytes d41) (by decide) rfl ?_
        exact Steps.refl _)
      have c10 : Steps p.tables e below (s₁.setTop (entryFrame m #[.ref b, .int (Int32.ofNat o), .ref d, .int (Int32.ofNat q), .int (Int32.ofNat len)] 7)) (T7.setTop (mkF m 3 #[.val (.ref b), .val (.int (Int32.ofNat (o + (i + 1)))), .val (.ref d), .val (.int (Int32.ofNat (q + (i + 1)))), .val (.int (Int32.ofNat len)), .val (.int (Int32.ofNat (i + 1))), .val (.int (cv A (o + i)))] [])) := by
        have := c9
        rw [succ32, succ32, succ32] at this
        exact this
      exact ih (i + 1) (by omega) _ (Or.inr ⟨_, rfl, rfl⟩) T7 _ (by rw [copyLocs_step, ← List.append_assoc]; exact X7) (pl.trans p7) (fl.step (by omega) hlt (by simp)) c10
  obtain ⟨T9, B9, z9, X9, p9, f9, g9⟩ := loop len 0 (by omega) .unset (Or.inl rfl) s₁ B (by simpa [copyLocs] using X0) ⟨hB0.1, fun _ _ => rfl, rfl⟩ (Laid.zero _ _ _) c2
  have c11 : Steps p.tables e below (s₁.setTop (entryFrame m #[.ref b, .int (Int32.ofNat o), .ref d, .int (Int32.ofNat q), .int (Int32.ofNat len)] 7)) (T9.setTop (mkF m 46 #[.val (.ref b), .val (.int (Int32.ofNat (o + len))), .val (.ref d), .val (.int (Int32.ofNat (q + len))), .val (.int (Int32.ofNat len)), .val (.int (Int32.ofNat len)), z9] [.int (Int32.ofNat len)])) := g9.trans (by
    refine XS.iload X9.here hexec rfl (hb hbytes d3) rfl ?_
    refine XS.iload X9.here hexec rfl (hb hbytes d5) rfl ?_
    refine XS.icmpYes X9.here hexec rfl (pc0 := 7) rfl (hb hbytes d7) rfl (ii_ge_t (nlt32 (by omega) (Nat.le_refl _))) (by decide) rfl ?_
    refine XS.iload X9.here hexec rfl (hb hbytes d44) rfl ?_
    exact Steps.refl _)
  exact ⟨T9, some (.int (Int32.ofNat len)), _, _, _, X9, by simp, rfl, rfl, (fun h => by cases h), ⟨rfl, B9, p9.from hh0, f9⟩, fun fs hl => c11.trans (X9.ireturnOut hexec hret rfl (Or.inl rfl) (hb hbytes d46) hl)⟩
end Cmp5
namespace Cmp3
def yN : MethodName := ⟨"java/lang/StringUTF16", "compress", "([CII)[B"⟩
abbrev yB : ByteArray := jdk_52_method_16_code
theorem d0 : decode yB 0 = .ok (.iload_n 2, 1) := by decide +kernel
theorem d1 : decode yB 1 = .ok (.newarray .byte, 2) := by decide +kernel
theorem d3 : decode yB 3 = .ok (.astore_n 3, 1) := by decide +kernel
theorem d4 : decode yB 4 = .ok (.aload_n 0, 1) := by decide +kernel
theorem d5 : decode yB 5 = .ok (.iload_n 1, 1) := by decide +kernel
theorem d6 : decode yB 6 = .ok (.aload_n 3, 1) := by decide +kernel
theorem d7 : decode yB 7 = .ok (.iconst 0, 1) := by decide +kernel
theorem d8 : decode yB 8 = .ok (.iload_n 2, 1) := by decide +kernel
theorem d9 : decode yB 9 = .ok (.invokestatic 115, 3) := by decide +kernel
theorem d12 : decode yB 12 = .ok (.istore 4, 2) := by decide +kernel
theorem d14 : decode yB 14 = .ok (.iload 4, 2) := by decide +kernel
theorem d16 : decode yB 16 = .ok (.iload_n 2, 1) := by decide +kernel
theorem d17 : decode yB 17 = .ok (.if_icmp (.eq) 40, 3) := by decide +kernel
theorem d57 : decode yB 57 = .ok (.aload_n 3, 1) := by decide +kernel
theorem d58 : decode yB 58 = .ok (.areturn, 1) := by decide +kernel
def site : List Cond := [.arrayClass .byte, Cmp5.tab] ++ staticW U16 115 Cmp5.yN
def tab : Cond := tabOf yN yB 6 (some (.array .byte)) site
def P (b : Addr) (A : Cell) (o len : Nat) (args : Array Value) (s : State) : Prop := args = #[.ref b, .int (Int32.ofNat o), .int (Int32.ofNat len)] ∧ Ch b A s ∧ o + len ≤ A.slots.size ∧ len ≤ 536870912 ∧ ∀ i, i < len → ¬ 255 < cv A (o + i)
def E (b : Addr) (A : Cell) (o len : Nat) (r : Option Value) (s u : State) : Prop := NewArr .byte "[B" len (fun j => .int (lo8 (cv A (o + j)))) r s u ∧ u.heap.size = s.heap.size + 1
/-- no char of the range above 255: a new byte[] of their low bytes -/
theorem law (l : Launch) (b : Addr) (A : Cell) (o len : Nat) : Law l yN 3 3 1 18 yB 6 (some (.array .byte)) site (P b A o len) (E b A o len) [] 1 len := by
  refine Law.of_walk (plainFor_of_name (by decide +kernel)) (by decide +kernel) (by decide +kernel) (by decide) (fun _ _ h => by rw [h.1]; rfl) (fun _ U U' hal hh h => ⟨h.1, h.2.1.mv hal hh, h.2.2⟩) (fun r U U' V V' h1 hal h2 h => ⟨NewArr.mv r U U' V V' h1 hal h2 h.1, by rw [h1, h2]; exact h.2⟩) ?_
  intro p e s m args below meth c s₁ X0 hexec hbytes hml hret hlk hnm hown hh0 W hP
  obtain ⟨rfl, hA, l1, l2, hp⟩ := hP
  have a31 := hA.1.2.2.2
  have c1 : Steps p.tables e below (s₁.setTop (entryFrame m #[.ref b, .int (Int32.ofNat o), .int (Int32.ofNat len)] 6)) (s₁.setTop (mkF m 0 #[.val (.ref b), .val (.int (Int32.ofNat o)), .val (.int (Int32.ofNat len)), .unset, .unset, .unset] [])) := entry rfl
  have c2 : Steps p.tables e below (s₁.setTop (entryFrame m #[.ref b, .int (Int32.ofNat o), .int (Int32.ofNat len)] 6)) (s₁.setTop (mkF m 1 #[.val (.ref b), .val (.int (Int32.ofNat o)), .val (.int (Int32.ofNat len)), .unset, .unset, .unset] [.int (Int32.ofNat len)])) := c1.trans (by
    refine XS.iloadN X0.here hexec rfl (hb hbytes d0) rfl ?_
    exact Steps.refl _)
  obtain ⟨T3, B3, X3, ba3, bs3, bv3, bh3, bf3, st3⟩ := X0.anew hexec (atype := .byte) (wk W (.arrayClass .byte)) rfl (by show len * 1 ≤ _; omega) (by omega) (g := (mkF m 1 #[.val (.ref b), .val (.int (Int32.ofNat o)), .val (.int (Int32.ofNat len)), .unset, .unset, .unset] [.int (Int32.ofNat len)])) rfl (hb hbytes d1) (rest := []) rfl (Nat.le_refl _) (by show 0 + len ≤ len; omega)
  rw [hh0] at ba3 st3
  have kp3 : XT.Kept s T3 := (XT.Kept.of_eq hh0).push bh3
  have hA3 := hA.keep X3.warmed.alike (kp3 _ _ hA.1.1)
  have hne : b ≠ s.heap.size := hA.1.ne
  have c4 : Steps p.tables e below (s₁.setTop (entryFrame m #[.ref b, .int (Int32.ofNat o), .int (Int32.ofNat len)] 6)) (T3.setTop (mkF m 3 #[.val (.ref b), .val (.int (Int32.ofNat o)), .val (.int (Int32.ofNat len)), .unset, .unset, .unset] [.ref s.heap.size])) := c2.trans (st3 _ (Steps.refl _))
  have c5 : Steps p.tables e below (s₁.setTop (entryFrame m #[.ref b, .int (Int32.ofNat o), .int (Int32.ofNat len)] 6)) (T3.setTop (mkF m 9 #[.val (.ref b), .val (.int (Int32.ofNat o)), .val (.int (Int32.ofNat len)), .val (.ref s.heap.size), .unset, .unset] [.int (Int32.ofNat len), .int 0, .ref s.heap.size, .int (Int32.ofNat o), .ref b])) := c4.trans (by
    refine XS.astoreN X3.here hexec rfl (hb hbytes d3) rfl rfl rfl ?_
    refine XS.aloadN X3.here hexec rfl (hb hbytes d4) rfl rfl ?_
    refine XS.iloadN X3.here hexec rfl (hb hbytes d5) rfl ?_
    refine XS.aloadN X3.here hexec rfl (hb hbytes d6) rfl rfl ?_
    refine iconstV X3.here hexec rfl 0 (hb hbytes d7) (by decide) ?_
    refine XS.iloadN X3.here hexec rfl (hb hbytes d8) rfl ?_
    exact Steps.refl _)
  obtain ⟨v6, T6, X6, E6, g6⟩ := X3.callS hexec (Cmp5.law l b A s.heap.size B3 o 0 len) hown (wks W (staticW U16 115 Cmp5.yN)) (wk W Cmp5.tab) (W := 0) (Nat.le_of_ble_eq_true rfl) (Nat.le_of_ble_eq_true rfl) (Nat.le_refl _) (by show 0 + len + 0 ≤ len; omega) (g := (mkF m 9 #[.val (.ref b), .val (.int (Int32.ofNat o)), .val (.int (Int32.ofNat len)), .val (.ref s.heap.size), .unset, .unset] [.int (Int32.ofNat len), .int (Int32.ofNat 0), .ref s.heap.size, .int (Int32.ofNat o), .ref b])) rfl (by rw [hml]; rfl) c5 (argsL := [.ref b, .int (Int32.ofNat o), .ref s.heap.size, .int (Int32.ofNat 0), .int (Int32.ofNat len)]) (rest := []) rfl rfl (by show 2 * 0 + 0 ≤ _; decide) (hb hbytes d9) (⟨rfl, hA3, ba3, hne, l1, by rw [bs3]; simp, hp⟩)
  obtain ⟨rfl, B6, p6, f6⟩ := E6
  have c7 : Steps p.tables e below (s₁.setTop (entryFrame m #[.ref b, .int (Int32.ofNat o), .int (Int32.ofNat len)] 6)) (T6.setTop (mkF m 12 #[.val (.ref b), .val (.int (Int32.ofNat o)), .val (.int (Int32.ofNat len)), .val (.ref s.heap.size), .unset, .unset] [.int (Int32.ofNat len)])) := g6
  have c8 : Steps p.tables e below (s₁.setTop (entryFrame m #[.ref b, .int (Int32.ofNat o), .int (Int32.ofNat len)] 6)) (T6.setTop (mkF m 58 #[.val (.ref b), .val (.int (Int32.ofNat o)), .val (.int (Int32.ofNat len)), .val (.ref s.heap.size), .val (.int (Int32.ofNat len)), .unset] [.ref s.heap.size])) := c7.trans (by
    refine XS.istore X6.here hexec rfl (hb hbytes d12) rfl rfl ?_
    refine XS.iload X6.here hexec rfl (hb hbytes d14) rfl ?_
    refine XS.iloadN X6.here hexec rfl (hb hbytes d16) rfl ?_
    refine XS.icmpYes X6.here hexec rfl (pc0 := 17) rfl (hb hbytes d17) rfl (ii_eq_t rfl) (by decide) rfl ?_
    refine XS.aloadN X6.here hexec rfl (hb hbytes d57) rfl rfl ?_
    exact Steps.refl _)
  have X8 := X6.wide (L' := []) (cells' := 1) (slots' := len) (fun x hx hlt => by
    simp only [List.nil_append, copyLocs, List.mem_map, List.mem_range] at hx
    obtain ⟨i, -, rfl⟩ := hx
    exact absurd hlt (Nat.lt_irrefl _)) (Nat.le_refl _) (by omega)
  exact ⟨T6, some (.ref s.heap.size), _, _, _, X8, rfl, rfl, rfl, (fun h => by cases h), ⟨⟨rfl, B6, ba3.like (X3.warmed.alike.symm.trans X6.warmed.alike) p6.1 f6.1 f6.2.1 f6.2.2.1, f6.2.1.trans bv3, by rw [X6.warmed.alike.findClass, f6.1]; exact bf3, by rw [f6.2.2.1, bs3]; simp, fun j hj => by rw [f6.2.2.2 j, if_pos (by omega)]; rfl, kp3.put p6 (Nat.le_refl _)⟩, by rw [p6.2.2, bh3, hh0]; simp⟩, fun fs hl => c8.trans (X8.areturnOut hexec rfl hret rfl (hb hbytes d58) hl)⟩
end Cmp3
namespace CodL
def yN : MethodName := ⟨"java/lang/StringUTF16", "coderFromArrayLen", "([BI)B"⟩
abbrev yB : ByteArray := jdk_52_method_15_code
theorem d0 : decode yB 0 = .ok (.iload_n 1, 1) := by decide +kernel
theorem d1 : decode yB 1 = .ok (.aload_n 0, 1) := by decide +kernel
theorem d2 : decode yB 2 = .ok (.arraylength, 1) := by decide +kernel
theorem d3 : decode yB 3 = .ok (.isub, 1) := by decide +kernel
theorem d4 : decode yB 4 = .ok (.bipush 31, 2) := by decide +kernel
theorem d6 : decode yB 6 = .ok (.iushr, 1) := by decide +kernel
theorem d7 : decode yB 7 = .ok (.i2b, 1) := by decide +kernel
theorem d8 : decode yB 8 = .ok (.ireturn, 1) := by decide +kernel
def site : List Cond := []
def tab : Cond := tabOf yN yB 2 (some .byte) site
def P (d : Addr) (B : Cell) (args : Array Value) (s : State) : Prop := args = #[.ref d, .int (Int32.ofNat B.slots.size)] ∧ Arr .byte d B s
def E (r : Option Value) (s u : State) : Prop := XT.PureE (some (.int 0)) r s u
/-- an array as long as the number of chars: LATIN1 -/
theorem law (l : Launch) (d : Addr) (B : Cell) : Law l yN 2 2 0 0 yB 2 (some .byte) site (P d B) E [] 0 0 := by
  refine Law.of_walk (plainFor_of_name (by decide +kernel)) (by decide +kernel) (by decide +kernel) (by decide) (fun _ _ h => by rw [h.1]; rfl) (fun _ U U' hal hh h => ⟨h.1, h.2.mv hal hh⟩) (fun r U U' V V' h1 hal h2 h => XT.PureE.mv r U U' V V' h1 hal h2 h) ?_
  intro p e s m args below meth c s₁ X0 hexec hbytes hml hret hlk hnm hown hh0 W hP
  obtain ⟨rfl, hB⟩ := hP
  have hB0 := hB.mv X0.warmed.alike hh0
  have c1 : Steps p.tables e below (s₁.setTop (entryFrame m #[.ref d, .int (Int32.ofNat B.slots.size)] 2)) (s₁.setTop (mkF m 0 #[.val (.ref d), .val (.int (Int32.ofNat B.slots.size))] [])) := entry rfl
  have c2 : Steps p.tables e below (s₁.setTop (entryFrame m #[.ref d, .int (Int32.ofNat B.slots.size)] 2)) (s₁.setTop (mkF m 2 #[.val (.ref d), .val (.int (Int32.ofNat B.slots.size))] [.ref d, .int (Int32.ofNat B.slots.size)])) := c1.trans (by
    refine XS.iloadN X0.here hexec rfl (hb hbytes d0) rfl ?_
    refine XS.aloadN X0.here hexec rfl (hb hbytes d1) rfl rfl ?_
    exact Steps.refl _)
  have c3 : Steps p.tables e below (s₁.setTop (entryFrame m #[.ref d, .int (Int32.ofNat B.slots.size)] 2)) (s₁.setTop (mkF m 8 #[.val (.ref d), .val (.int (Int32.ofNat B.slots.size))] [.int (lo8 (ushr (Int32.ofNat B.slots.size - Int32.ofNat B.slots.size) 31))])) := c2.trans (by
    refine X0.alen hexec hB0 rfl rfl (hb hbytes d2) ?_
    refine XS.isub X0.here hexec rfl (hb hbytes d3) rfl ?_
    refine bipushV X0.here hexec rfl 31 (hb hbytes d4) (by decide) ?_
    refine iushr X0.here hexec rfl (hb hbytes d6) rfl ?_
    refine i2b X0.here hexec rfl (hb hbytes d7) rfl ?_
    exact Steps.refl _)
  have e0 : lo8 (ushr (Int32.ofNat B.slots.size - Int32.ofNat B.slots.size) 31) = 0 := by rw [Int32.sub_self]; decide
  rw [e0] at c3
  exact ⟨s₁, some (.int 0), _, _, _, X0, rfl, rfl, rfl, (fun h => by cases h), ⟨rfl, hh0⟩, fun fs hl => c3.trans (X0.ireturnOut hexec hret rfl (Or.inr (Or.inr (Or.inl rfl))) (hb hbytes d8) hl)⟩
end CodL
/-- the String at a is Latin-1 over a new byte[] (the heap's one new cell): the low bytes of the len chars of A from o on; every cell but a is kept -/
def Got (a : Addr) (D : Cell) (fV fC : Field) (A : Cell) (o len : Nat) (r : Option Value) (s u : State) : Prop := r = none ∧ ∃ D' V : Cell, Blank "java/lang/String" a D' u ∧ Same D D' [fV.slot, fC.slot] ∧ D'.slots[fV.slot]? = some (.ref s.heap.size) ∧ D'.slots[fC.slot]? = some (.int 0) ∧ Arr .byte s.heap.size V u ∧ V.vm = .none ∧ u.vm.findClass "[B" = some V.cls ∧ V.slots.size = len ∧ (∀ j, j < len → V.slots[j]? = some (.int (lo8 (cv A (o + j))))) ∧ (∀ (y : Addr) (c : Cell), y ≠ a → s.heap[y]? = some c → u.heap[y]? = some c) ∧ u.heap.size = s.heap.size + 1
theorem Got.mv {a : Addr} {D A : Cell} {fV fC : Field} {o len : Nat} : ∀ r (U U' V V' : State), U'.heap = U.heap → V.vm.Alike V'.vm → V'.heap = V.heap → Got a D fV fC A o len r U V → Got a D fV fC A o len r U' V' :=
  fun r U U' V V' h1 hal h2 ⟨e0, D', X, a1, a2, a3, a4, a5, a6, a7, a8, a9, a10, a11⟩ => ⟨e0, D', X, a1.mv hal h2, a2, by rw [h1]; exact a3, a4, by rw [h1]; exact a5.mv hal h2, a6, by rw [hal.findClass]; exact a7, a8, a9, by rw [h1, h2]; exact a10, by rw [h1, h2]; exact a11⟩
namespace New4
def yN : MethodName := ⟨"java/lang/String", "<init>", "([CIILjava/lang/Void;)V"⟩
abbrev yB : ByteArray := jdk_42_method_149_code
theorem d0 : decode yB 0 = .ok (.aload_n 0, 1) := by decide +kernel
theorem d1 : decode yB 1 = .ok (.invokespecial 1, 3) := by decide +kernel
theorem d4 : decode yB 4 = .ok (.iload_n 3, 1) := by decide +kernel
theorem d5 : decode yB 5 = .ok (.ifCond (.ne) 22, 3) := by decide +kernel
theorem d27 : decode yB 27 = .ok (.getstatic 38, 3) := by decide +kernel
theorem d30 : decode yB 30 = .ok (.ifCond (.eq) 28, 3) := by decide +kernel
theorem d33 : decode yB 33 = .ok (.aload_n 1, 1) := by decide +kernel
theorem d34 : decode yB 34 = .ok (.iload_n 2, 1) := by decide +kernel
theorem d35 : decode yB 35 = .ok (.iload_n 3, 1) := by decide +kernel
theorem d36 : decode yB 36 = .ok (.invokestatic 177, 3) := by decide +kernel
theorem d39 : decode yB 39 = .ok (.astore 5, 2) := by decide +kernel
theorem d41 : decode yB 41 = .ok (.aload_n 0, 1) := by decide +kernel
theorem d42 : decode yB 42 = .ok (.aload 5, 2) := by decide +kernel
theorem d44 : decode yB 44 = .ok (.iload_n 3, 1) := by decide +kernel
theorem d45 : decode yB 45 = .ok (.invokestatic 47, 3) := by decide +kernel
theorem d48 : decode yB 48 = .ok (.putfield 15, 3) := by decide +kernel
theorem d51 : decode yB 51 = .ok (.aload_n 0, 1) := by decide +kernel
theorem d52 : decode yB 52 = .ok (.aload 5, 2) := by decide +kernel
theorem d54 : decode yB 54 = .ok (.putfield 9, 3) := by decide +kernel
theorem d57 : decode yB 57 = .ok (.return_, 1) := by decide +kernel
def site : List Cond := [.fieldLink "java/lang/String" 38 "java/lang/String" "COMPACT_STRINGS" "Z", Cmp3.tab, CodL.tab, .laysFinal "java/lang/String" "java/lang/String" "value" "[B", .fieldLink "java/lang/String" 9 "java/lang/String" "value" "[B", .laysFinal "java/lang/String" "java/lang/String" "coder" "B", .fieldLink "java/lang/String" 15 "java/lang/String" "coder" "B"] ++ objW "java/lang/String" 1 ++ staticW "java/lang/String" 177 Cmp3.yN ++ staticW "java/lang/String" 47 CodL.yN
def tab : Cond := tabOf yN yB 6 none site
def P (a : Addr) (D : Cell) (fV fC : Field) (b : Addr) (A : Cell) (z : Int32) (o len : Nat) (args : Array Value) (s : State) : Prop := args = #[.ref a, .ref b, .int (Int32.ofNat o), .int (Int32.ofNat len), .null] ∧ Blank "java/lang/String" a D s ∧ Found "java/lang/String" "value" "[B" fV s ∧ Found "java/lang/String" "coder" "B" fC s ∧ Ch b A s ∧ StaticIs s "java/lang/String" "COMPACT_STRINGS" "Z" (.int z) ∧ ¬ z = 0 ∧ 0 < len ∧ o + len ≤ A.slots.size ∧ len ≤ 536870912 ∧ ∀ i, i < len → ¬ 255 < cv A (o + i)
def E (a : Addr) (D : Cell) (fV fC : Field) (A : Cell) (o len : Nat) (r : Option Value) (s u : State) : Prop := Got a D fV fC A o len r s u
/-- len > 0, no char of the range above 255: a Latin-1 String of their low bytes -/
theorem law (l : Launch) (a : Addr) (D : Cell) (fV fC : Field) (b : Addr) (A : Cell) (z : Int32) (o len : Nat) : Law l yN 5 4 2 35 yB 6 none site (P a D fV fC b A z o len) (E a D fV fC A o len) [⟨a, fC.slot⟩, ⟨a, fV.slot⟩] 1 len := by
  refine Law.of_walk (plainFor_of_name (by decide +kernel)) (by decide +kernel) (by decide +kernel) (by decide) (fun _ _ h => by rw [h.1]; rfl) (fun _ U U' hal hh h => ⟨h.1, h.2.1.mv hal hh, h.2.2.1.al hal, h.2.2.2.1.al hal, h.2.2.2.2.1.mv hal hh, h.2.2.2.2.2.1.there hal hh, h.2.2.2.2.2.2⟩) (fun r U U' V V' h1 hal h2 h => Got.mv r U U' V V' h1 hal h2 h) ?_
  intro p e s m args below meth c s₁ X0 hexec hbytes hml hret hlk hnm hown hh0 W hP
  obtain ⟨rfl, hB, f1, f2, hA, s1, hz, l0, l1, l2, hp⟩ := hP
  have a31 := hA.1.2.2.2
  have c1 : Steps p.tables e below (s₁.setTop (entryFrame m #[.ref a, .ref b, .int (Int32.ofNat o), .int (Int32.ofNat len), .null] 6)) (s₁.setTop (mkF m 0 #[.val (.ref a), .val (.ref b), .val (.int (Int32.ofNat o)), .val (.int (Int32.ofNat len)), .val .null, .unset] [])) := entry rfl
  have c2 : Steps p.tables e below (s₁.setTop (entryFrame m #[.ref a, .ref b, .int (Int32.ofNat o), .int (Int32.ofNat len), .null] 6)) (s₁.setTop (mkF m 1 #[.val (.ref a), .val (.ref b), .val (.int (Int32.ofNat o)), .val (.int (Int32.ofNat len)), .val .null, .unset] [.ref a])) := c1.trans (by
    refine XS.aloadN X0.here hexec rfl (hb hbytes d0) rfl rfl ?_
    exact Steps.refl _)
  obtain ⟨T3, X3, q3, st3⟩ := X0.oinit hexec hown (wks W (objW "java/lang/String" 1)) (g := (mkF m 1 #[.val (.ref a), .val (.ref b), .val (.int (Int32.ofNat o)), .val (.int (Int32.ofNat len)), .val .null, .unset] [.ref a])) rfl (by rw [hml]; rfl) (rest := []) rfl (hb hbytes d1) (W := 0) (by show 2 * 0 + 0 ≤ _; decide) (Nat.le_of_ble_eq_true rfl) (Nat.le_of_ble_eq_true rfl)
  have hh3 := q3.trans hh0
  have c4 : Steps p.tables e below (s₁.setTop (entryFrame m #[.ref a, .ref b, .int (Int32.ofNat o), .int (Int32.ofNat len), .null] 6)) (T3.setTop (mkF m 27 #[.val (.ref a), .val (.ref b), .val (.int (Int32.ofNat o)), .val (.int (Int32.ofNat len)), .val .null, .unset] [])) := (c2.trans (st3 _ (Steps.refl _))).trans (by
    refine XS.iloadN X3.here hexec rfl (hb hbytes d4) rfl ?_
    refine XS.ifYes X3.here hexec rfl (pc0 := 5) rfl (hb hbytes d5) rfl (i0_ne_t (nz32 (by omega) l0)) (by decide) rfl ?_
    exact Steps.refl _)
  obtain ⟨T5, X5, q5, st5⟩ := X3.sget hexec hown (wk W (.fieldLink "java/lang/String" 38 "java/lang/String" "COMPACT_STRINGS" "Z")) s1 (fun _ _ h => by rw [hh3]; exact h) (g := (mkF m 27 #[.val (.ref a), .val (.ref b), .val (.int (Int32.ofNat o)), .val (.int (Int32.ofNat len)), .val .null, .unset] [])) rfl (hb hbytes d27)
  have hh5 := q5.trans hh3
  have c6 : Steps p.tables e below (s₁.setTop (entryFrame m #[.ref a, .ref b, .int (Int32.ofNat o), .int (Int32.ofNat len), .null] 6)) (T5.setTop (mkF m 30 #[.val (.ref a), .val (.ref b), .val (.int (Int32.ofNat o)), .val (.int (Int32.ofNat len)), .val .null, .unset] [.int z])) := c4.trans (st5 _ (Steps.refl _))
  have c7 : Steps p.tables e below (s₁.setTop (entryFrame m #[.ref a, .ref b, .int (Int32.ofNat o), .int (Int32.ofNat len), .null] 6)) (T5.setTop (mkF m 36 #[.val (.ref a), .val (.ref b), .val (.int (Int32.ofNat o)), .val (.int (Int32.ofNat len)), .val .null, .unset] [.int (Int32.ofNat len), .int (Int32.ofNat o), .ref b])) := c6.trans (by
    refine XS.ifNo X5.here hexec rfl (hb hbytes d30) rfl (i0_eq_f hz) ?_
    refine XS.aloadN X5.here hexec rfl (hb hbytes d33) rfl rfl ?_
    refine XS.iloadN X5.here hexec rfl (hb hbytes d34) rfl ?_
    refine XS.iloadN X5.here hexec rfl (hb hbytes d35) rfl ?_
    exact Steps.refl _)
  obtain ⟨v8, T8, X8, E8, g8⟩ := X5.callS hexec (Cmp3.law l b A o len) hown (wks W (staticW "java/lang/String" 177 Cmp3.yN)) (wk W Cmp3.tab) (W := 0) (Nat.le_of_ble_eq_true rfl) (Nat.le_of_ble_eq_true rfl) (Nat.le_refl _) (by show 0 + len ≤ len; omega) (g := (mkF m 36 #[.val (.ref a), .val (.ref b), .val (.int (Int32.ofNat o)), .val (.int (Int32.ofNat len)), .val .null, .unset] [.int (Int32.ofNat len), .int (Int32.ofNat o), .ref b])) rfl (by rw [hml]; rfl) c7 (argsL := [.ref b, .int (Int32.ofNat o), .int (Int32.ofNat len)]) (rest := []) rfl rfl (by show 2 * 0 + 0 ≤ _; decide) (hb hbytes d36) (⟨rfl, hA.mv X5.warmed.alike hh5, l1, l2, hp⟩)
  obtain ⟨e8, z8⟩ := E8
  obtain ⟨rfl, N, n1, n2, n3, n4, n5, n6⟩ := NewArr.mv _ T5 s _ _ hh5.symm (Vm.Alike.refl _) rfl e8
  rw [hh5] at z8
  have hB1 := hB.keep X8.warmed.alike (n6 _ _ hB.1)
  have hne : s.heap.size ≠ a := (Nat.ne_of_lt (Array.getElem?_eq_some_iff.mp hB.1).1).symm
  have c9 : Steps p.tables e below (s₁.setTop (entryFrame m #[.ref a, .ref b, .int (Int32.ofNat o), .int (Int32.ofNat len), .null] 6)) (T8.setTop (mkF m 39 #[.val (.ref a), .val (.ref b), .val (.int (Int32.ofNat o)), .val (.int (Int32.ofNat len)), .val .null, .unset] [.ref s.heap.size])) := g8
  have c10 : Steps p.tables e below (s₁.setTop (entryFrame m #[.ref a, .ref b, .int (Int32.ofNat o), .int (Int32.ofNat len), .null] 6)) (T8.setTop (mkF m 45 #[.val (.ref a), .val (.ref b), .val (.int (Int32.ofNat o)), .val (.int (Int32.ofNat len)), .val .null, .val (.ref s.heap.size)] [.int (Int32.ofNat N.slots.size), .ref s.heap.size, .ref a])) := by
    have hc : Steps p.tables e below (s₁.setTop (entryFrame m #[.ref a, .ref b, .int (Int32.ofNat o), .int (Int32.ofNat len), .null] 6)) (T8.setTop (mkF m 45 #[.val (.ref a), .val (.ref b), .val (.int (Int32.ofNat o)), .val (.int (Int32.ofNat len)), .val .null, .val (.ref s.heap.size)] [.int (Int32.ofNat len), .ref s.heap.size, .ref a])) := c9.trans (by
      refine XS.astore X8.here hexec rfl (hb hbytes d39) rfl rfl rfl ?_
      refine XS.aloadN X8.here hexec rfl (hb hbytes d41) rfl rfl ?_
      refine XS.aload X8.here hexec rfl (hb hbytes d42) rfl rfl ?_
      refine XS.iloadN X8.here hexec rfl (hb hbytes d44) rfl ?_
      exact Steps.refl _)
    rw [n4]; exact hc
  obtain ⟨v11, T11, X11, E11, g11⟩ := X8.callS hexec (CodL.law l s.heap.size N) hown (wks W (staticW "java/lang/String" 47 CodL.yN)) (wk W CodL.tab) (W := 1) (Nat.le_of_ble_eq_true rfl) (Nat.le_of_ble_eq_true rfl) (Nat.le_refl _) (by show 0 + len + 0 ≤ len; omega) (g := (mkF m 45 #[.val (.ref a), .val (.ref b), .val (.int (Int32.ofNat o)), .val (.int (Int32.ofNat len)), .val .null, .val (.ref s.heap.size)] [.int (Int32.ofNat N.slots.size), .ref s.heap.size, .ref a])) rfl (by rw [hml]; rfl) c10 (argsL := [.ref s.heap.size, .int (Int32.ofNat N.slots.size)]) (rest := [.ref a]) rfl rfl (by show 2 * 0 + (1 + 0) ≤ _; decide) (hb hbytes d45) (⟨rfl, n1⟩)
  obtain ⟨rfl, q11⟩ := E11
  have hB11 := hB1.mv (X8.warmed.alike.symm.trans X11.warmed.alike) q11
  have c12 : Steps p.tables e below (s₁.setTop (entryFrame m #[.ref a, .ref b, .int (Int32.ofNat o), .int (Int32.ofNat len), .null] 6)) (T11.setTop (mkF m 48 #[.val (.ref a), .val (.ref b), .val (.int (Int32.ofNat o)), .val (.int (Int32.ofNat len)), .val .null, .val (.ref s.heap.size)] [.int 0, .ref a])) := g11
  obtain ⟨T13, X13, p13, bl13, sl13, st13⟩ := X11.finit hexec hown (wk W (.fieldLink "java/lang/String" 15 "java/lang/String" "coder" "B")) (Or.inr ⟨_, (wk W (.laysFinal "java/lang/String" "java/lang/String" "coder" "B"))⟩) (Or.inl ⟨rfl, hnm⟩) f2 (Or.inl rfl) hB11 (t := .byte) (by decide +kernel) rfl (g := (mkF m 48 #[.val (.ref a), .val (.ref b), .val (.int (Int32.ofNat o)), .val (.int (Int32.ofNat len)), .val .null, .val (.ref s.heap.size)] [.int 0, .ref a])) rfl (rest := []) rfl (hb hbytes d48)
  have c14 : Steps p.tables e below (s₁.setTop (entryFrame m #[.ref a, .ref b, .int (Int32.ofNat o), .int (Int32.ofNat len), .null] 6)) (T13.setTop (mkF m 54 #[.val (.ref a), .val (.ref b), .val (.int (Int32.ofNat o)), .val (.int (Int32.ofNat len)), .val .null, .val (.ref s.heap.size)] [.ref s.heap.size, .ref a])) := (c12.trans (st13 _ (Steps.refl _))).trans (by
    refine XS.aloadN X13.here hexec rfl (hb hbytes d51) rfl rfl ?_
    refine XS.aload X13.here hexec rfl (hb hbytes d52) rfl rfl ?_
    exact Steps.refl _)
  obtain ⟨T15, X15, p15, bl15, sl15, st15⟩ := X13.finit hexec hown (wk W (.fieldLink "java/lang/String" 9 "java/lang/String" "value" "[B")) (Or.inr ⟨_, (wk W (.laysFinal "java/lang/String" "java/lang/String" "value" "[B"))⟩) (Or.inl ⟨rfl, hnm⟩) f1 (Or.inl rfl) bl13 (t := (.array .byte)) (by decide +kernel) rfl (g := (mkF m 54 #[.val (.ref a), .val (.ref b), .val (.int (Int32.ofNat o)), .val (.int (Int32.ofNat len)), .val .null, .val (.ref s.heap.size)] [.ref s.heap.size, .ref a])) rfl (rest := []) rfl (hb hbytes d54)
  have c16 : Steps p.tables e below (s₁.setTop (entryFrame m #[.ref a, .ref b, .int (Int32.ofNat o), .int (Int32.ofNat len), .null] 6)) (T15.setTop (mkF m 57 #[.val (.ref a), .val (.ref b), .val (.int (Int32.ofNat o)), .val (.int (Int32.ofNat len)), .val .null, .val (.ref s.heap.size)] [])) := c14.trans (st15 _ (Steps.refl _))
  have ap := apart (Or.inr ⟨_, (wk W (.laysFinal "java/lang/String" "java/lang/String" "value" "[B"))⟩) (Or.inr ⟨_, (wk W (.laysFinal "java/lang/String" "java/lang/String" "coder" "B"))⟩) f1 f2 (t₁ := .array .byte) (t₂ := .byte) (by decide +kernel) (by decide +kernel) (by decide)
  have al := X8.warmed.alike.symm.trans X15.warmed.alike
  have n7 : T11.heap[s.heap.size]? = some N := by rw [q11]; exact n1.1
  exact ⟨T15, none, _, _, _, X15, by simp, rfl, by omega, (fun _ => rfl), ⟨rfl, _, N, bl15, ((Same.refl D _).set _ (by simp)).set _ (by simp), sl15, (Cell.slots_setSlot_ne _ ap).trans sl13, n1.keep al (p15.other hne (p13.other hne n7)), n2, by rw [al.findClass]; exact n3, n4, n5, fun y c h1 h2 => p15.other h1 (p13.other h1 (by rw [q11]; exact n6 y c h2)), by rw [p15.2.2, p13.2.2, q11]; exact z8⟩, fun fs hl => c16.trans (X15.returnOut hexec hret (hb hbytes d57) hl)⟩
end New4
namespace New1
def yN : MethodName := ⟨"java/lang/String", "<init>", "([C)V"⟩
abbrev yB : ByteArray := jdk_42_method_3_code
theorem d0 : decode yB 0 = .ok (.aload_n 0, 1) := by decide +kernel
theorem d1 : decode yB 1 = .ok (.aload_n 1, 1) := by decide +kernel
theorem d2 : decode yB 2 = .ok (.iconst 0, 1) := by decide +kernel
theorem d3 : decode yB 3 = .ok (.aload_n 1, 1) := by decide +kernel
theorem d4 : decode yB 4 = .ok (.arraylength, 1) := by decide +kernel
theorem d5 : decode yB 5 = .ok (.aconst_null, 1) := by decide +kernel
theorem d6 : decode yB 6 = .ok (.invokespecial 27, 3) := by decide +kernel
theorem d9 : decode yB 9 = .ok (.return_, 1) := by decide +kernel
def site : List Cond := [New4.tab] ++ initW "java/lang/String" 27 New4.yN
def tab : Cond := tabOf yN yB 2 none site
def P (a : Addr) (D : Cell) (fV fC : Field) (b : Addr) (A : Cell) (z : Int32) (args : Array Value) (s : State) : Prop := args = #[.ref a, .ref b] ∧ Blank "java/lang/String" a D s ∧ Found "java/lang/String" "value" "[B" fV s ∧ Found "java/lang/String" "coder" "B" fC s ∧ Ch b A s ∧ StaticIs s "java/lang/String" "COMPACT_STRINGS" "Z" (.int z) ∧ ¬ z = 0 ∧ 0 < A.slots.size ∧ A.slots.size ≤ 536870912 ∧ ∀ i, i < A.slots.size → ¬ 255 < cv A i
def E (a : Addr) (D : Cell) (fV fC : Field) (A : Cell) (r : Option Value) (s u : State) : Prop := Got a D fV fC A 0 A.slots.size r s u
/-- new String(chars), not empty, no char above 255: a Latin-1 String of their low bytes -/
theorem law (l : Launch) (a : Addr) (D : Cell) (fV fC : Field) (b : Addr) (A : Cell) (z : Int32) : Law l yN 2 1 3 52 yB 2 none site (P a D fV fC b A z) (E a D fV fC A) [⟨a, fC.slot⟩, ⟨a, fV.slot⟩] 1 A.slots.size := by
  refine Law.of_walk (plainFor_of_name (by decide +kernel)) (by decide +kernel) (by decide +kernel) (by decide) (fun _ _ h => by rw [h.1]; rfl) (fun _ U U' hal hh h => ⟨h.1, h.2.1.mv hal hh, h.2.2.1.al hal, h.2.2.2.1.al hal, h.2.2.2.2.1.mv hal hh, h.2.2.2.2.2.1.there hal hh, h.2.2.2.2.2.2⟩) (fun r U U' V V' h1 hal h2 h => Got.mv r U U' V V' h1 hal h2 h) ?_
  intro p e s m args below meth c s₁ X0 hexec hbytes hml hret hlk hnm hown hh0 W hP
  obtain ⟨rfl, hB, f1, f2, hA, s1, hz, l0, l2, hp⟩ := hP
  have c1 : Steps p.tables e below (s₁.setTop (entryFrame m #[.ref a, .ref b] 2)) (s₁.setTop (mkF m 0 #[.val (.ref a), .val (.ref b)] [])) := entry rfl
  have c2 : Steps p.tables e below (s₁.setTop (entryFrame m #[.ref a, .ref b] 2)) (s₁.setTop (mkF m 6 #[.val (.ref a), .val (.ref b)] [.null, .int (Int32.ofNat A.slots.size), .int 0, .ref b, .ref a])) := c1.trans (by
    refine XS.aloadN X0.here hexec rfl (hb hbytes d0) rfl rfl ?_
    refine XS.aloadN X0.here hexec rfl (hb hbytes d1) rfl rfl ?_
    refine iconstV X0.here hexec rfl 0 (hb hbytes d2) (by decide) ?_
    refine XS.aloadN X0.here hexec rfl (hb hbytes d3) rfl rfl ?_
    refine X0.alen hexec (hA.1.mv X0.warmed.alike hh0) rfl rfl (hb hbytes d4) ?_
    refine XS.aconstNull X0.here hexec rfl (hb hbytes d5) ?_
    exact Steps.refl _)
  obtain ⟨v3, T3, X3, E3, g3⟩ := X0.callN hexec (New4.law l a D fV fC b A z 0 A.slots.size) rfl hown (wks W (initW "java/lang/String" 27 New4.yN)) (W New4.tab (by simp only [site, List.mem_cons, List.mem_append, true_or, or_true])) (W := 0) (Nat.le_of_ble_eq_true rfl) (Nat.le_of_ble_eq_true rfl) (Nat.le_refl _) (by show 0 + A.slots.size ≤ A.slots.size; omega) (g := (mkF m 6 #[.val (.ref a), .val (.ref b)] [.null, .int (Int32.ofNat A.slots.size), .int (Int32.ofNat 0), .ref b, .ref a])) rfl (by rw [hml]; rfl) c2 (argsL := [.ref b, .int (Int32.ofNat 0), .int (Int32.ofNat A.slots.size), .null]) (rest := []) rfl rfl (by show 2 * 0 + 0 ≤ _; decide) (hb hbytes d6) (⟨rfl, hB.mv X0.warmed.alike hh0, f1.al X0.warmed.alike, f2.al X0.warmed.alike, hA.mv X0.warmed.alike hh0, s1.there X0.warmed.alike hh0, hz, l0, by omega, l2, fun i hi => by rw [Nat.zero_add]; exact hp i hi⟩)
  have e0 := Got.mv _ s₁ s _ _ hh0.symm (Vm.Alike.refl _) rfl E3
  obtain rfl := e0.1
  have c4 : Steps p.tables e below (s₁.setTop (entryFrame m #[.ref a, .ref b] 2)) (T3.setTop (mkF m 9 #[.val (.ref a), .val (.ref b)] [])) := g3
  exact ⟨T3, none, _, _, _, X3, by simp, rfl, by omega, (fun _ => rfl), e0, fun fs hl => c4.trans (X3.returnOut hexec hret (hb hbytes d9) hl)⟩
theorem pays {l : Launch} {R : Room} {p : Program} {e : Env} {below : List Frame} {s : State} {sargs : Array Value} {len W : Nat} (a : Addr) (D : Cell) (fV fC : Field) (b : Addr) (A : Cell) (z : Int32) (htab : tab.before sargs s = true) (hfr : 4 ≤ R.frames) (hlo : W + 65 ≤ R.locals) :
    Back l R p e below s sargs yN len W (fun A₁ a₁ => A₁.cells + 1 ≤ R.cells ∧ A₁.slots + A.slots.size ≤ R.slots ∧ P a D fV fC b A z a₁ A₁.U) (fun A₁ _ v₁ B₁ => E a D fV fC A v₁ A₁.U B₁.U ∧ B₁.locs = A₁.locs ++ [⟨a, fC.slot⟩, ⟨a, fV.slot⟩] ∧ B₁.cells = A₁.cells + 1 ∧ B₁.slots = A₁.slots + A.slots.size) :=
  (law l a D fV fC b A z).pays htab hfr (by omega)
end New1
/-- the byte, read back as charAt reads it, is the char -/
theorem lo8_mask {x : Int32} (h0 : ¬ x < 0) (h1 : ¬ 255 < x) : lo8 x &&& 255 = x := by
  have t : ∀ k : Fin 256, lo8 (Int32.ofNat k.val) &&& 255 = Int32.ofNat k.val := by decide +kernel
  rw [Int32.lt_iff_toInt_lt] at h0 h1
  have e0 : (0 : Int32).toInt = 0 := rfl
  have e1 : (255 : Int32).toInt = 255 := rfl
  obtain ⟨k, hk⟩ : ∃ k : Nat, x.toInt = k := ⟨x.toInt.toNat, by omega⟩
  have hx : x = Int32.ofNat k := Int32.toInt_inj.mp (by rw [hk, Int32.toInt_ofNat_small (by omega)])
  rw [hx]
  exact t ⟨k, by omega⟩
end StrChars
namespace StrChars.Road
open Jvm Sem ClassFile Op Lib Jvm.Stand Jvm.Free Jvm.Free.XT
open Jvm.Lib.Cold (StaticIs)
abbrev ST : String := "java/lang/String"
/-- every table word that New1's law asks, flat -/
abbrev words : List Jvm.Cond := [.code New1.yN New1.yB 2 none, .initialized ST, .methodLink ST 27 New4.yN, .instanceMethod New4.yN,
  .code New4.yN New4.yB 6 none, .fieldLink ST 38 ST "COMPACT_STRINGS" "Z", .laysFinal ST ST "value" "[B", .fieldLink ST 9 ST "value" "[B", .laysFinal ST ST "coder" "B", .fieldLink ST 15 ST "coder" "B",
  .methodLink ST 1 Lib.objectInit, .instanceMethod Lib.objectInit, .code Lib.objectInit ⟨#[0xb1]⟩ 1 none, .methodLink ST 177 Cmp3.yN, .static Cmp3.yN, .methodLink ST 47 CodL.yN, .static CodL.yN,
  .code Cmp3.yN Cmp3.yB 6 (some (.array .byte)), .initialized U16, .arrayClass .byte, .methodLink U16 115 Cmp5.yN, .static Cmp5.yN, .code Cmp5.yN Cmp5.yB 7 (some .int), .code CodL.yN CodL.yB 2 (some .byte)]
theorem tab_of {a : Array Value} {s : State} (h : ∀ w ∈ words, w.before a s = true) : New1.tab.before a s = true := by
  have h5 : Cmp5.tab.before a s = true := unparts (wk h (.code Cmp5.yN Cmp5.yB 7 (some .int))) (wks h (.initialized Cmp5.yN.cls :: Cmp5.site))
  have hc : CodL.tab.before a s = true := unparts (wk h (.code CodL.yN CodL.yB 2 (some .byte))) (wks h (.initialized CodL.yN.cls :: CodL.site))
  have q5 : ∀ w ∈ Cmp5.tab :: words, w.before a s = true := fun w hw => (List.mem_cons.mp hw).elim (fun e => e ▸ h5) (h w)
  have h3 : Cmp3.tab.before a s = true := unparts (wk q5 (.code Cmp3.yN Cmp3.yB 6 (some (.array .byte)))) (wks q5 (.initialized Cmp3.yN.cls :: Cmp3.site))
  have q3 : ∀ w ∈ Cmp3.tab :: CodL.tab :: words, w.before a s = true := fun w hw => (List.mem_cons.mp hw).elim (fun e => e ▸ h3) fun hw => (List.mem_cons.mp hw).elim (fun e => e ▸ hc) (h w)
  have h4 : New4.tab.before a s = true := unparts (wk q3 (.code New4.yN New4.yB 6 none)) (wks q3 (.initialized New4.yN.cls :: New4.site))
  have q4 : ∀ w ∈ New4.tab :: words, w.before a s = true := fun w hw => (List.mem_cons.mp hw).elim (fun e => e ▸ h4) (h w)
  exact unparts (wk q4 (.code New1.yN New1.yB 2 none)) (wks q4 (.initialized New1.yN.cls :: New1.site))
/-- the words ride from the start Z to the walk's own state -/
theorem moved {Z s : State} {a0 args : Array Value} (hZ : Z.Warmed39 s.vm) (hw : ∀ d ∈ words, d.before a0 Z = true) : ∀ d ∈ words, d.before args s = true := fun d hd => by
  have q := hw d hd
  have t : ∀ d ∈ words, d = .arrayClass .byte ∨ (d.onTables && d.keepsFace) = true := by decide +kernel
  rcases t d hd with rfl | t
  · exact RoadKit.mvA hZ q
  · exact RoadKit.mv hZ q t
/-- WHAT COMES BACK, over the tables of the start Z: h the heap at the call, h' behind it -/
def Q (Z : State) (x : Addr) (A : Cell) (h : Heap) (v : Option Value) (h' : Heap) (L : List Loc) : Prop := v = none ∧ (∀ y ∈ L, y.base = x) ∧ RoadKit.Keep h h' [x] ∧ h'.size = h.size + 1 ∧ RoadKit.Exa Z h' x ST ∧ RoadKit.Fld Z h' x ST "value" "[B" (.ref h.size) ∧ RoadKit.Fld Z h' x ST "coder" "B" (.int 0) ∧
  (∃ V : Cell, RoadKit.Arr Z h' h.size V .byte ∧ V.vm = .none ∧ Z.vm.findClass "[B" = some V.cls ∧ V.slots.size = A.slots.size ∧ ∀ j, j < A.slots.size → V.slots[j]? = some (.int (lo8 (cv A j)))) ∧
  ∀ (O n d : String) (w : Value), RoadKit.Fld Z h x O n d w → RoadKit.slotOf Z O n d ≠ RoadKit.slotOf Z ST "value" "[B" → RoadKit.slotOf Z O n d ≠ RoadKit.slotOf Z ST "coder" "B" → RoadKit.Fld Z h' x O n d w
/-- **new String(chars) AT A CALL, IN THE ROAD'S FORM**: for specialBack behind newO: x the fresh String, b the char[] with the cell A -/
theorem back {p : Program} {l : Launch} {e : Env} {R : Room} {s : State} {args : Array Value} {below : List Frame} {len W : Nat} {Z : State} {a0 : Array Value} {h : Heap} (hZ : Z.Warmed39 s.vm) (hw : ∀ d ∈ words, d.before a0 Z = true) {kI : Nat} (wi : (Jvm.Cond.instantiable ST kI).before a0 Z = true)
    {x b : Addr} {A : Cell} {z : Int32} {v0 c0 : Value} (E : RoadKit.Exa Z h x ST) (V : RoadKit.Fld Z h x ST "value" "[B" v0) (C : RoadKit.Fld Z h x ST "coder" "B" c0) (K : RoadKit.Arr Z h b A .char) (hty : Typed .char A) (S : RoadKit.Sta Z h ST "COMPACT_STRINGS" "Z" (.int z)) (hz : ¬ z = 0)
    (l0 : 0 < A.slots.size) (l2 : A.slots.size ≤ 536870912) (hp : ∀ i, i < A.slots.size → ¬ 255 < cv A i) (hfr : 4 ≤ R.frames) (hlo : W + 65 ≤ R.locals) :
    Back l R p e below s args New1.yN len W (fun P a => a = #[.ref x, .ref b] ∧ P.U.heap = h ∧ P.cells + 1 ≤ R.cells ∧ P.slots + A.slots.size ≤ R.slots)
      (fun P _ v B => ∃ L, Q Z x A h v B.U.heap L ∧ B.locs = P.locs ++ L ∧ B.cells = P.cells + 1 ∧ B.slots = P.slots + A.slots.size) := by
  intro m meth c P g ig mk a X hg hsize hdg hW hn hp'
  obtain ⟨rfl, rfl, r1, r2⟩ := hp'
  have al : Z.vm.Alike P.U.vm := hZ.alike.trans X.warmed.alike
  obtain ⟨D, cfV, kV, iV, fV, hD, gV, stV, knV, obV, asV, slV⟩ := id V
  obtain ⟨D', cfC, kC, iC, fC, hD', gC, stC, -, -, asC, slC⟩ := id C
  cases hD.symm.trans hD'
  obtain ⟨D2, kD, e1, e2, e3, e4, e5⟩ := id E
  cases hD.symm.trans e1
  obtain ⟨c2, k2, i1, i2, i3, -⟩ := Cond.instantiable_spec wi
  cases e2.symm.trans i1
  cases e3.symm.trans i2
  obtain ⟨kU, u1, u2⟩ := al.2.2 _ _ e3
  have hB : Blank ST x D P.U := ⟨hD, ⟨knV, fun q hq => by rw [hq] at obV; cases obV⟩, by rw [al.findClass]; exact e2, kU, u1, by rw [u2]; exact i3, by rw [u2]; exact e5 i3⟩
  have F1 : Found ST "value" "[B" fV P.U := ⟨SBG.found_only al ⟨cfV, kV, iV, gV⟩, stV⟩
  have F2 : Found ST "coder" "B" fC P.U := ⟨SBG.found_only al ⟨cfC, kC, iC, gC⟩, stC⟩
  have hA : Ch b A P.U := ⟨⟨K.1, State.isArrayOf_alike al K.2.1, K.2.2, by omega⟩, hty⟩
  have hS : StaticIs P.U ST "COMPACT_STRINGS" "Z" (.int z) := by
    obtain ⟨cfS, iS, kS, fS, st, cS, t1, t2, t3, t4, t5, t6, t7⟩ := S
    exact StaticIs.there (s := { Z with heap := P.U.heap }) ⟨cfS, iS, kS, fS, st, cS, t1, t2, t3, t4, t5, (fun q => by rw [q] at t6; cases t6), t7⟩ al rfl
  obtain ⟨v, B, X', ⟨⟨hv, E', V', q1, q2, q3, q4, q5, q6, q7, q8, q9, q10, q11⟩, hl, hc, hs⟩, st⟩ := New1.pays x D fV fC b A z (tab_of (moved hZ hw)) hfr hlo m meth c P g ig mk _ X hg hsize hdg hW hn ⟨r1, r2, rfl, hB, F1, F2, hA, hS, hz, l0, l2, hp⟩
  have al' : Z.vm.Alike B.U.vm := hZ.alike.trans X'.warmed.alike
  have hsz : E'.slots.size = D.slots.size := by
    obtain ⟨-, -, -, kB, w1, w2, w3⟩ := q1
    obtain ⟨kB', y1, y2⟩ := al'.2.2 _ _ e3
    rw [q2.2.1] at w1
    cases w1.symm.trans y1
    rw [w3, e5 i3, y2]
  refine ⟨v, B, X', ⟨_, ⟨hv, ?_, ⟨by omega, fun y cy hy hn' => q10 y cy (by simpa using hn') hy, fun y cy hy => ?_⟩, q11, ⟨E', _, q1.1, by rw [q2.2.1]; exact e2, by rw [q2.2.1]; exact e3, by rw [q2.1]; exact obV, fun _ => by rw [hsz]; exact e5 i3⟩,
    ⟨E', cfV, kV, iV, fV, q1.1, gV, stV, by rw [q2.1]; exact knV, by rw [q2.1]; exact obV, by rw [q2.2.1]; exact asV, q3⟩, ⟨E', cfC, kC, iC, fC, q1.1, gC, stC, by rw [q2.1]; exact knV, by rw [q2.1]; exact obV, by rw [q2.2.1]; exact asC, q4⟩,
    ⟨V', ⟨q5.1, State.isArrayOf_alike al'.symm q5.2.1, q5.2.2.1⟩, q6, by rw [← al'.findClass]; exact q7, q8, fun j hj => by have := q9 j hj; rwa [Nat.zero_add] at this⟩, fun O n d w F n1 n2 => ?_⟩, hl, hc, hs⟩, st⟩
  · intro y hy
    simp only [List.mem_cons, List.not_mem_nil, or_false] at hy
    rcases hy with rfl | rfl <;> rfl
  · by_cases q : y = x
    · subst q
      cases hD.symm.trans hy
      exact ⟨E', q1.1, q2.2.1, q2.1, hsz⟩
    · exact ⟨cy, q10 y cy q hy, rfl, rfl, rfl⟩
  · obtain ⟨D3, cf, k, i, f, g1, g2, g3, g4, g5, g6, g7⟩ := F
    cases hD.symm.trans g1
    simp only [RoadKit.slotOf, g2, gV, gC, Option.map_some, Option.getD_some] at n1 n2
    exact ⟨E', cf, k, i, f, q1.1, g2, g3, by rw [q2.1]; exact g4, by rw [q2.1]; exact g5, by rw [q2.2.1]; exact g6, by rw [q2.2.2 f.slot (by simp [n1, n2])]; exact g7⟩
end StrChars.Road
namespace StrChars.Road
open Jvm Sem ClassFile Op Lib Jvm.Stand Jvm.Free Jvm.Free.XT
/-- WHAT COMES BACK, the byte[] as a list of values -/
def QA (Z : State) (x : Addr) (zn : Int32) (cs : List Int32) (h : Heap) (v : Option Value) (h' : Heap) (L : List Loc) : Prop := v = none ∧ (∀ y ∈ L, y.base = x) ∧ RoadKit.Keep h h' [x] ∧ h'.size = h.size + 1 ∧ RoadKit.Exa Z h' x ST ∧ RoadKit.Fld Z h' x ST "value" "[B" (.ref h.size) ∧ RoadKit.Fld Z h' x ST "coder" "B" (.int 0) ∧
  (∃ kb, Z.vm.findClass "[B" = some kb ∧ RoadKit.Arv Z h' h.size kb .byte zn (cs.map fun c => .int (lo8 c)) (.int 0)) ∧
  ∀ (O n d : String) (w : Value), RoadKit.Fld Z h x O n d w → RoadKit.slotOf Z O n d ≠ RoadKit.slotOf Z ST "value" "[B" → RoadKit.slotOf Z O n d ≠ RoadKit.slotOf Z ST "coder" "B" → RoadKit.Fld Z h' x O n d w
/-- **new String(chars) AT A CALL, THE ARRAYS AS LISTS**: the char[] at b holds cs, not empty, no char above 255 -/
theorem backArv {p : Program} {l : Launch} {e : Env} {R : Room} {s : State} {args : Array Value} {below : List Frame} {len W : Nat} {Z : State} {a0 : Array Value} {h : Heap} (hZ : Z.Warmed39 s.vm) (hw : ∀ d ∈ words, d.before a0 Z = true) {kI : Nat} (wi : (Jvm.Cond.instantiable ST kI).before a0 Z = true)
    {x b : Addr} {k : ClassId} {zn z : Int32} {cs : List Int32} {dv v0 c0 : Value} (E : RoadKit.Exa Z h x ST) (V : RoadKit.Fld Z h x ST "value" "[B" v0) (C : RoadKit.Fld Z h x ST "coder" "B" c0) (K : RoadKit.Arv Z h b k .char zn (cs.map Value.int) dv) (S : RoadKit.Sta Z h ST "COMPACT_STRINGS" "Z" (.int z)) (hz : ¬ z = 0)
    (hlen : zn.toNatClampNeg = cs.length) (h0 : 0 < cs.length) (hbig : cs.length ≤ 536870912) (hall : ∀ c ∈ cs, ¬ 255 < c) (hfr : 4 ≤ R.frames) (hlo : W + 65 ≤ R.locals) :
    Back l R p e below s args New1.yN len W (fun P a => a = #[.ref x, .ref b] ∧ P.U.heap = h ∧ P.cells + 1 ≤ R.cells ∧ P.slots + cs.length ≤ R.slots)
      (fun P _ v B => ∃ L, QA Z x zn cs h v B.U.heap L ∧ B.locs = P.locs ++ L ∧ B.cells = P.cells + 1 ∧ B.slots = P.slots + cs.length) := by
  obtain ⟨A, K1, K2, K3, K4, K5, K6⟩ := K
  have e : A.slots.size = cs.length := K3.trans hlen
  have hat : ∀ (i : Nat) (hi : i < cs.length), A.slots[i]? = some (.int cs[i]) := fun i hi => by rw [K5 i (by omega)]; simp [List.getD_eq_getElem?_getD, hi]
  have hcv : ∀ (i : Nat) (hi : i < cs.length), cv A i = cs[i] := fun i hi => by unfold cv; rw [hat i hi]
  have hty : Typed .char A := fun i v hv => by
    have hi : i < A.slots.size := (Array.getElem?_eq_some_iff.mp hv).1
    have q := K5 i hi
    rw [hv] at q
    rw [Option.some.inj q]
    exact K6 i hi
  refine Back.mono (back hZ hw wi E V C K1 hty S hz (by omega) (by omega) (fun i hi => by rw [hcv i (by omega)]; exact hall _ (List.getElem_mem _)) hfr hlo) (fun P a hp => ⟨hp.1, hp.2.1, hp.2.2.1, by rw [e]; exact hp.2.2.2⟩) (fun P a v B hp hq => ?_)
  obtain ⟨L, ⟨q1, q2, q3, q4, q5, q6, q7, ⟨V', v1, v2, v3, v4, v5⟩, q9⟩, hl, hc, hs⟩ := hq
  refine ⟨L, ⟨q1, q2, q3, q4, q5, q6, q7, ⟨V'.cls, v3, V', v1, rfl, by rw [v4, e, hlen], K4, fun i hi => ?_, fun i hi => ?_⟩, q9⟩, hl, hc, by rw [hs, e]⟩
  · have hi' : i < cs.length := by omega
    rw [v5 i (by omega), hcv i hi']; simp [List.getD_eq_getElem?_getD, hi']
  · have hi' : i < cs.length := by omega
    simp only [List.getD_eq_getElem?_getD, List.getElem?_map, List.getElem?_eq_getElem hi', Option.map_some, Option.getD_some]
    exact fits_lo8 _
end StrChars.Road
namespace StrChars.Road
open Jvm Sem ClassFile Op Lib Jvm.Stand Jvm.Free Jvm.Free.XT
/-- WHAT COMES BACK, in the writer's own shape -/
def QV (Z : State) (x : Addr) (N : Int32) (bs : List Int32) (h : Heap) (n0 : Nat) (v : Option Value) (h' : Heap) (L : List Loc) : Prop := v = none ∧ RoadKit.Fr n0 L ∧ RoadKit.Keep h h' [x] ∧ RoadKit.Exa Z h' x ST ∧ RoadKit.Fld Z h' x ST "coder" "B" (.int 0) ∧
  ∃ (t : Addr) (kb : ClassId), n0 ≤ t ∧ h.size ≤ t ∧ ¬ t = x ∧ RoadKit.Fld Z h' x ST "value" "[B" (.ref t) ∧ RoadKit.Arv Z h' t kb .byte N (bs.map Value.int) (.int 0)
/-- **new String(chars) AT A CALL, FOR THE WRITER**: a char[] of n known ints, each 0 to 255 -/
theorem backV {p : Program} {l : Launch} {e : Env} {R : Room} {s : State} {args : Array Value} {below : List Frame} {len W : Nat} {Z : State} {a0 : Array Value} {h : Heap} (hZ : Z.Warmed39 s.vm) (hw : ∀ d ∈ words, d.before a0 Z = true) {kI : Nat} (wi : (Jvm.Cond.instantiable ST kI).before a0 Z = true)
    {x b : Addr} {kC : ClassId} {cs bs : List Int32} {d v0 c0 : Value} {z N : Int32} {n n0 : Nat} (hx0 : n0 ≤ x) (hh0 : n0 ≤ h.size) (E : RoadKit.Exa Z h x ST) (V : RoadKit.Fld Z h x ST "value" "[B" v0) (C : RoadKit.Fld Z h x ST "coder" "B" c0) (K : RoadKit.Arv Z h b kC .char N (cs.map Value.int) d) (S : RoadKit.Sta Z h ST "COMPACT_STRINGS" "Z" (.int z)) (hz : ¬ z = 0)
    (hn : cs.length = n) (hN : N = Int32.ofNat n) (l0 : 0 < n) (l2 : n ≤ 4000) (hp : ∀ c ∈ cs, ¬ c < 0 ∧ ¬ (255 : Int32) < c) (hb : bs = cs.map (fun c => c.toInt8.toInt32)) (hfr : 4 ≤ R.frames) (hlo : W + 65 ≤ R.locals) :
    Back l R p e below s args (⟨"java/lang/String", "<init>", "([C)V"⟩ : MethodName) len W (fun P a => a = #[.ref x, .ref b] ∧ P.U.heap = h ∧ P.cells + 1 ≤ R.cells ∧ P.slots + n ≤ R.slots)
      (fun P _ v B => ∃ L, QV Z x N bs h n0 v B.U.heap L ∧ B.locs = P.locs ++ L ∧ B.cells = P.cells + 1 ∧ B.slots = P.slots + n) := by
  subst hn hN hb
  refine Back.mono (backArv hZ hw wi E V C K S hz (n32 (by omega)) l0 (by omega) (fun c hc => (hp c hc).2) hfr hlo) (fun P a hp => hp) (fun P a v B hp hq => ?_)
  obtain ⟨L, ⟨q1, q2, q3, q4, q5, q6, q7, ⟨kb, v1, v2⟩, q9⟩, hl, hc, hs⟩ := hq
  exact ⟨L, ⟨q1, fun y hy => by rw [q2 y hy]; exact hx0, q3, q5, q7, h.size, kb, hh0, Nat.le_refl _, Nat.ne_of_gt E.lt, q6, by rw [List.map_map]; exact v2⟩, hl, hc, hs⟩
end StrChars.Road
namespace StrChars
open Jvm Sem ClassFile Op Lib Jvm.Stand Jvm.Free.XT Jvm.Free.ALB Jvm.Free.JM Jvm.Free
open Jvm.Lib.Cold (StaticIs)
def hi8 (x : Int32) : Int32 := lo8 (x >>> ((8 : Int32) &&& 31))
/-- what StringUTF16.getChar makes of two bytes -/
def pairCh (u v : Int32) : Int32 := (((u &&& 255) <<< ((0 : Int32) &&& 31)) ||| ((v &&& 255) <<< ((8 : Int32) &&& 31))).toUInt32.toUInt16.toUInt32.toInt32
theorem shr0 (c : Int32) : c >>> ((0 : Int32) &&& 31) = c := by
  have e : ((0 : Int32) &&& 31) = 0 := by decide
  rw [e]
  apply Int32.toBitVec_inj.mp
  rw [Int32.toBitVec_shiftRight]
  have e1 : ((0 : Int32).toBitVec.smod 32) = 0#32 := by decide
  rw [e1, BitVec.sshiftRight_eq']
  exact BitVec.sshiftRight_zero
theorem lo8_and (x : Int32) : (lo8 x &&& 255).toBitVec.toNat = x.toBitVec.toNat % 256 := by
  have h : (lo8 x).toBitVec = (x.toBitVec.signExtend 8).signExtend 32 := by rw [lo8, Int8.toBitVec_toInt32, Int32.toBitVec_toInt8]
  rw [Int32.toBitVec_and, BitVec.toNat_and, h]
  have e : ((x.toBitVec.signExtend 8).signExtend 32).toNat % 256 = x.toBitVec.toNat % 256 := by
    rw [BitVec.toNat_signExtend]
    have hlt := x.toBitVec.isLt
    simp only [BitVec.toNat_setWidth, BitVec.toNat_signExtend]
    split <;> split <;> omega
  rw [← e]
  exact Nat.and_two_pow_sub_one_eq_mod _ 8
theorem pair_says {c : Int32} (h0 : ¬ c < 0) (h1 : ¬ 65535 < c) : pairCh (lo8 c) (hi8 c) = c := by
  rw [Int32.lt_iff_toInt_lt] at h0 h1
  have e0 : (0 : Int32).toInt = 0 := rfl
  have e1 : (65535 : Int32).toInt = 65535 := rfl
  have hc : c.toInt = c.toBitVec.toNat := by
    have := c.toBitVec.isLt
    have e : c.toInt = c.toBitVec.toInt := rfl
    rw [e] at h0 h1
    rw [e]
    rw [BitVec.toInt_eq_toNat_cond] at h0 h1 ⊢
    split at h0 <;> split <;> omega
  have hn : c.toBitVec.toNat < 65536 := by omega
  have a1 := lo8_and c
  have a2 : (hi8 c &&& 255).toBitVec.toNat = c.toBitVec.toNat / 256 := by
    rw [hi8, lo8_and]
    have e : ((8 : Int32) &&& 31) = 8 := by decide
    rw [e, Int32.toBitVec_shiftRight]
    have e2 : ((8 : Int32).toBitVec.smod 32) = 8#32 := by decide
    rw [e2, BitVec.sshiftRight_eq', BitVec.toNat_sshiftRight_of_msb_false (by rw [BitVec.msb_eq_false_iff_two_mul_lt]; omega)]
    show c.toBitVec.toNat >>> 8 % 256 = _
    rw [Nat.shiftRight_eq_div_pow]
    omega
  unfold pairCh
  apply Int32.toBitVec_inj.mp
  apply BitVec.eq_of_toNat_eq
  have f0 : ((0 : Int32) &&& 31) = 0 := by decide
  have f8 : ((8 : Int32) &&& 31) = 8 := by decide
  rw [f0, f8]
  have g : (((lo8 c &&& 255) <<< (0 : Int32)) ||| ((hi8 c &&& 255) <<< (8 : Int32))).toBitVec.toNat = c.toBitVec.toNat := by
    rw [Int32.toBitVec_or, Int32.toBitVec_shiftLeft, Int32.toBitVec_shiftLeft]
    have s0 : ((0 : Int32).toBitVec.smod 32) = 0#32 := by decide
    have s8 : ((8 : Int32).toBitVec.smod 32) = 8#32 := by decide
    rw [s0, s8, BitVec.toNat_or]
    simp only [BitVec.shiftLeft_eq', BitVec.toNat_shiftLeft, a1, a2]
    show (c.toBitVec.toNat % 256) <<< 0 % 2 ^ 32 ||| (c.toBitVec.toNat / 256) <<< 8 % 2 ^ 32 = _
    rw [Nat.shiftLeft_zero, Nat.mod_eq_of_lt (show c.toBitVec.toNat % 256 < 2 ^ 32 by omega), Nat.mod_eq_of_lt (show (c.toBitVec.toNat / 256) <<< 8 < 2 ^ 32 by rw [Nat.shiftLeft_eq]; omega), Nat.or_comm, ← Nat.shiftLeft_add_eq_or_of_lt (by omega), Nat.shiftLeft_eq]
    omega
  show BitVec.toNat (((((lo8 c &&& 255) <<< (0 : Int32)) ||| ((hi8 c &&& 255) <<< (8 : Int32))).toBitVec.setWidth 16).setWidth 32) = _
  rw [BitVec.toNat_setWidth, BitVec.toNat_setWidth, g]
  omega
end StrChars
namespace StrChars
open Jvm Sem ClassFile Op Lib Jvm.Stand Jvm.Free.XT Jvm.Free.ALB Jvm.Free.JM Jvm.Free
open Jvm.Lib.Cold (StaticIs)
theorem shr1 {n : Nat} (h : 2 * n < 2 ^ 31) : Int32.ofNat (2 * n) >>> ((1 : Int32) &&& 31) = Int32.ofNat n := by
  have e : ((1 : Int32) &&& 31) = 1 := by decide
  rw [e]
  apply Int32.toBitVec_inj.mp
  rw [Int32.toBitVec_shiftRight]
  have e1 : ((1 : Int32).toBitVec.smod 32) = 1#32 := by decide
  have hm : (BitVec.ofNat 32 (2 * n)).toNat = 2 * n := by rw [BitVec.toNat_ofNat, Nat.mod_eq_of_lt (by omega)]
  rw [e1, BitVec.sshiftRight_eq']
  apply BitVec.eq_of_toNat_eq
  show ((BitVec.ofNat 32 (2 * n)).sshiftRight 1).toNat = (BitVec.ofNat 32 n).toNat
  rw [BitVec.toNat_sshiftRight_of_msb_false (by rw [BitVec.msb_eq_false_iff_two_mul_lt, hm]; omega), hm, BitVec.toNat_ofNat, Nat.shiftRight_eq_div_pow]
  omega
/-- charAt's cast of a byte read back -/
def chr8 (u : Int32) : Int32 := (u &&& 255).toUInt32.toUInt16.toUInt32.toInt32
theorem chr8_lo8 {c : Int32} (h0 : ¬ c < 0) (h1 : ¬ 255 < c) : chr8 (lo8 c) = c := by
  have t : ∀ k : Fin 256, (Int32.ofNat k.val).toUInt32.toUInt16.toUInt32.toInt32 = Int32.ofNat k.val := by decide +kernel
  unfold chr8
  rw [lo8_mask h0 h1]
  rw [Int32.lt_iff_toInt_lt] at h0 h1
  have e0 : (0 : Int32).toInt = 0 := rfl
  have e1 : (255 : Int32).toInt = 255 := rfl
  obtain ⟨k, hk⟩ : ∃ k : Nat, c.toInt = k := ⟨c.toInt.toNat, by omega⟩
  have hx : c = Int32.ofNat k := Int32.toInt_inj.mp (by rw [hk, Int32.toInt_ofNat_small (by omega)])
  rw [hx]
  exact t ⟨k, by omega⟩
theorem narrow_ch {c : Int32} (h0 : ¬ c < 0) (h1 : ¬ 65535 < c) : narrow .char (.int c) = .int c := by
  have q : narrow .char (.int (pairCh (lo8 c) (hi8 c))) = .int (pairCh (lo8 c) (hi8 c)) := narrow_c _
  rwa [pair_says h0 h1] at q
/-- the array's cell V codes the n chars f 0 .. f (n - 1) by the coder cd, as the JDK does: coder 1 just where some char is above 255 -/
def Cod (cd : Int32) (n : Nat) (f : Nat → Int32) (V : Cell) : Prop := (cd = 0 ∧ V.slots.size = n ∧ ∀ j, j < n → V.slots[j]? = some (.int (lo8 (f j))) ∧ ¬ 255 < f j) ∨ (cd = 1 ∧ V.slots.size = 2 * n ∧ (∀ j, j < n → V.slots[2 * j]? = some (.int (lo8 (f j))) ∧ V.slots[2 * j + 1]? = some (.int (hi8 (f j)))) ∧ ∃ j, j < n ∧ 255 < f j)
theorem Cod.cd {cd : Int32} {n : Nat} {f : Nat → Int32} {V : Cell} (h : Cod cd n f V) : cd = 0 ∨ cd = 1 := h.imp (fun q => q.1) fun q => q.1
theorem Cod.len {cd : Int32} {n : Nat} {f : Nat → Int32} {V : Cell} (h : Cod cd n f V) (hs : V.slots.size < 2 ^ 31) : Int32.ofNat V.slots.size >>> (cd &&& 31) = Int32.ofNat n := by
  rcases h with ⟨rfl, h, -⟩ | ⟨rfl, h, -⟩
  · rw [shr0, h]
  · rw [h, shr1 (by omega)]
/-- **x is a String of the n chars f 0 .. f (n - 1)**, Latin-1 or UTF-16; its array at t has the cell V -/
def Txt (x t : Addr) (V : Cell) (cd : Int32) (n : Nat) (f : Nat → Int32) (U : State) : Prop := Exact "java/lang/String" x U ∧ Has x "java/lang/String" "value" "[B" (.ref t) U ∧ Has x "java/lang/String" "coder" "B" (.int cd) U ∧ XT.Arr .byte t V U ∧ Cod cd n f V ∧ ∀ j, j < n → ¬ f j < 0 ∧ ¬ 65535 < f j
theorem Txt.mv {x t : Addr} {V : Cell} {cd : Int32} {n : Nat} {f : Nat → Int32} {U U' : State} (h : Txt x t V cd n f U) (hal : U.vm.Alike U'.vm) (hh : U'.heap = U.heap) : Txt x t V cd n f U' := ⟨h.1.mv hal hh, h.2.1.mv hal hh, h.2.2.1.mv hal hh, h.2.2.2.1.mv hal hh, h.2.2.2.2⟩
namespace Cdr
def yN : MethodName := ⟨"java/lang/String", "coder", "()B"⟩
abbrev yB : ByteArray := jdk_42_method_152_code
theorem d0 : decode yB 0 = .ok (.getstatic 38, 3) := by decide +kernel
theorem d3 : decode yB 3 = .ok (.ifCond (.eq) 10, 3) := by decide +kernel
theorem d6 : decode yB 6 = .ok (.aload_n 0, 1) := by decide +kernel
theorem d7 : decode yB 7 = .ok (.getfield 15, 3) := by decide +kernel
theorem d10 : decode yB 10 = .ok (.goto 4, 3) := by decide +kernel
theorem d14 : decode yB 14 = .ok (.ireturn, 1) := by decide +kernel
def site : List Cond := [.fieldLink "java/lang/String" 38 "java/lang/String" "COMPACT_STRINGS" "Z", .fieldLink "java/lang/String" 15 "java/lang/String" "coder" "B"]
def tab : Cond := tabOf yN yB 1 (some .byte) site
def P (x : Addr) (cd z : Int32) (args : Array Value) (s : State) : Prop := args = #[.ref x] ∧ Has x "java/lang/String" "coder" "B" (.int cd) s ∧ (cd = 0 ∨ cd = 1) ∧ StaticIs s "java/lang/String" "COMPACT_STRINGS" "Z" (.int z) ∧ ¬ z = 0
def E (cd : Int32) (r : Option Value) (s u : State) : Prop := XT.PureE (some (.int cd)) r s u
theorem law (l : Launch) (x : Addr) (cd z : Int32) : Law l yN 1 0 0 0 yB 1 (some .byte) site (P x cd z) (E cd) [] 0 0 := by
  refine Law.of_walk (plainFor_of_name (by decide +kernel)) (by decide +kernel) (by decide +kernel) (by decide) (fun _ _ h => by rw [h.1]; rfl) (fun _ U U' hal hh h => ⟨h.1, h.2.1.mv hal hh, h.2.2.1, h.2.2.2.1.there hal hh, h.2.2.2.2⟩) (fun r U U' V V' h1 hal h2 h => XT.PureE.mv r U U' V V' h1 hal h2 h) ?_
  intro p e s m args below meth c s₁ X0 hexec hbytes hml hret hlk hnm hown hh0 W hP
  obtain ⟨rfl, hx, hc, s1, hz⟩ := hP
  have c1 : Steps p.tables e below (s₁.setTop (entryFrame m #[.ref x] 1)) (s₁.setTop (mkF m 0 #[.val (.ref x)] [])) := entry rfl
  obtain ⟨T2, X2, q2, st2⟩ := X0.sget hexec hown (wk W (.fieldLink "java/lang/String" 38 "java/lang/String" "COMPACT_STRINGS" "Z")) s1 (fun _ _ h => by rw [hh0]; exact h) (g := (mkF m 0 #[.val (.ref x)] [])) rfl (hb hbytes d0)
  have hh2 := q2.trans hh0
  have c3 : Steps p.tables e below (s₁.setTop (entryFrame m #[.ref x] 1)) (T2.setTop (mkF m 7 #[.val (.ref x)] [.ref x])) := (c1.trans (st2 _ (Steps.refl _))).trans (by
    refine XS.ifNo X2.here hexec rfl (hb hbytes d3) rfl (i0_eq_f hz) ?_
    refine XS.aloadN X2.here hexec rfl (hb hbytes d6) rfl rfl ?_
    exact Steps.refl _)
  obtain ⟨T4, X4, q4, st4⟩ := X2.hget hexec hown (wk W (.fieldLink "java/lang/String" 15 "java/lang/String" "coder" "B")) (hx.mv X2.warmed.alike hh2) (g := (mkF m 7 #[.val (.ref x)] [.ref x])) rfl (rest := []) rfl (hb hbytes d7)
  have c5 : Steps p.tables e below (s₁.setTop (entryFrame m #[.ref x] 1)) (T4.setTop (mkF m 14 #[.val (.ref x)] [.int cd])) := (c3.trans (st4 _ (Steps.refl _))).trans (by
    refine XS.goto X4.here hexec rfl (pc0 := 10) rfl (hb hbytes d10) (by decide) rfl ?_
    exact Steps.refl _)
  exact ⟨T4, some (.int cd), _, _, _, X4, rfl, rfl, rfl, (fun h => by cases h), ⟨rfl, q4.trans hh2⟩, fun fs hl => c5.trans (X4.ireturnOut hexec hret (by rcases hc with rfl | rfl <;> rfl) (Or.inr (Or.inr (Or.inl rfl))) (hb hbytes d14) hl)⟩
end Cdr
namespace Len
def yN : MethodName := ⟨"java/lang/String", "length", "()I"⟩
abbrev yB : ByteArray := jdk_42_method_54_code
theorem d0 : decode yB 0 = .ok (.aload_n 0, 1) := by decide +kernel
theorem d1 : decode yB 1 = .ok (.getfield 9, 3) := by decide +kernel
theorem d4 : decode yB 4 = .ok (.arraylength, 1) := by decide +kernel
theorem d5 : decode yB 5 = .ok (.aload_n 0, 1) := by decide +kernel
theorem d6 : decode yB 6 = .ok (.invokevirtual 335, 3) := by decide +kernel
theorem d9 : decode yB 9 = .ok (.ishr, 1) := by decide +kernel
theorem d10 : decode yB 10 = .ok (.ireturn, 1) := by decide +kernel
def site : List Cond := [.fieldLink "java/lang/String" 9 "java/lang/String" "value" "[B", Cdr.tab] ++ virtW "java/lang/String" 335 "java/lang/String" Cdr.yN Cdr.yN
def tab : Cond := tabOf yN yB 1 (some .int) site
def P (x t : Addr) (V : Cell) (cd : Int32) (n : Nat) (f : Nat → Int32) (z : Int32) (args : Array Value) (s : State) : Prop := args = #[.ref x] ∧ Txt x t V cd n f s ∧ StaticIs s "java/lang/String" "COMPACT_STRINGS" "Z" (.int z) ∧ ¬ z = 0
def E (n : Nat) (r : Option Value) (s u : State) : Prop := XT.PureE (some (.int (Int32.ofNat n))) r s u
/-- length() of a String of n chars, in either coding -/
theorem law (l : Launch) (x t : Addr) (V : Cell) (cd : Int32) (n : Nat) (f : Nat → Int32) (z : Int32) : Law l yN 1 0 1 13 yB 1 (some .int) site (P x t V cd n f z) (E n) [] 0 0 := by
  refine Law.of_walk (plainFor_of_name (by decide +kernel)) (by decide +kernel) (by decide +kernel) (by decide) (fun _ _ h => by rw [h.1]; rfl) (fun _ U U' hal hh h => ⟨h.1, h.2.1.mv hal hh, h.2.2.1.there hal hh, h.2.2.2⟩) (fun r U U' V V' h1 hal h2 h => XT.PureE.mv r U U' V V' h1 hal h2 h) ?_
  intro p e s m args below meth c s₁ X0 hexec hbytes hml hret hlk hnm hown hh0 W hP
  obtain ⟨rfl, hx, s1, hz⟩ := hP
  have v31 := hx.2.2.2.1.2.2.2
  have c1 : Steps p.tables e below (s₁.setTop (entryFrame m #[.ref x] 1)) (s₁.setTop (mkF m 1 #[.val (.ref x)] [.ref x])) := Steps.trans (entry rfl) (by
    show Steps p.tables e below (s₁.setTop (mkF m 0 #[.val (.ref x)] [])) _
    refine XS.aloadN X0.here hexec rfl (hb hbytes d0) rfl rfl ?_
    exact Steps.refl _)
  obtain ⟨T2, X2, q2, st2⟩ := X0.hget hexec hown (wk W (.fieldLink "java/lang/String" 9 "java/lang/String" "value" "[B")) (hx.mv X0.warmed.alike hh0).2.1 (g := (mkF m 1 #[.val (.ref x)] [.ref x])) rfl (rest := []) rfl (hb hbytes d1)
  have hh2 := q2.trans hh0
  have hx2 := hx.mv X2.warmed.alike hh2
  have c3 : Steps p.tables e below (s₁.setTop (entryFrame m #[.ref x] 1)) (T2.setTop (mkF m 6 #[.val (.ref x)] [.ref x, .int (Int32.ofNat V.slots.size)])) := (c1.trans (st2 _ (Steps.refl _))).trans (by
    refine X2.alen hexec hx2.2.2.2.1 rfl rfl (hb hbytes d4) ?_
    refine XS.aloadN X2.here hexec rfl (hb hbytes d5) rfl rfl ?_
    exact Steps.refl _)
  obtain ⟨v4, T4, X4, E4, g4⟩ := X2.callV hexec (Cdr.law l x cd z) hown (wks W (virtW "java/lang/String" 335 "java/lang/String" Cdr.yN Cdr.yN)) rfl (by decide) (wk W Cdr.tab) (W := 1) (Nat.le_of_ble_eq_true rfl) (Nat.le_of_ble_eq_true rfl) (Nat.le_refl _) (Nat.le_refl _) (hx2.1.fc X2.warmed.alike) hx2.1.is (g := (mkF m 6 #[.val (.ref x)] [.ref x, .int (Int32.ofNat V.slots.size)])) rfl (by rw [hml]; rfl) c3 (argsL := []) (rest := [.int (Int32.ofNat V.slots.size)]) rfl rfl (by show 2 * 0 + (1 + 0) ≤ _; decide) (hb hbytes d6) (⟨rfl, hx2.2.2.1, hx.2.2.2.2.1.cd, s1.there X2.warmed.alike hh2, hz⟩)
  obtain ⟨rfl, q4⟩ := E4
  have c5 : Steps p.tables e below (s₁.setTop (entryFrame m #[.ref x] 1)) (T4.setTop (mkF m 10 #[.val (.ref x)] [.int (Int32.ofNat V.slots.size >>> (cd &&& 31))])) := Steps.trans g4 (by
    refine ishr X4.here hexec rfl (hb hbytes d9) rfl ?_
    exact Steps.refl _)
  rw [hx.2.2.2.2.1.len v31] at c5
  exact ⟨T4, some (.int (Int32.ofNat n)), _, _, _, X4, rfl, rfl, rfl, (fun h => by cases h), ⟨rfl, q4.trans hh2⟩, fun fs hl => c5.trans (X4.ireturnOut hexec hret rfl (Or.inl rfl) (hb hbytes d10) hl)⟩
theorem pays {l : Launch} {R : Room} {p : Program} {e : Env} {below : List Frame} {s : State} {sargs : Array Value} {len W : Nat} (x t : Addr) (V : Cell) (cd : Int32) (n : Nat) (f : Nat → Int32) (z : Int32) (htab : tab.before sargs s = true) (hfr : 2 ≤ R.frames) (hlo : W + 25 ≤ R.locals) :
    Back l R p e below s sargs yN len W (fun A₁ a₁ => A₁.cells + 0 ≤ R.cells ∧ A₁.slots + 0 ≤ R.slots ∧ P x t V cd n f z a₁ A₁.U) (fun A₁ _ v₁ B₁ => E n v₁ A₁.U B₁.U ∧ B₁.locs = A₁.locs ++ [] ∧ B₁.cells = A₁.cells + 0 ∧ B₁.slots = A₁.slots + 0) :=
  (law l x t V cd n f z).pays htab hfr (by omega)
end Len
namespace IsL
def yN : MethodName := ⟨"java/lang/String", "isLatin1", "()Z"⟩
abbrev yB : ByteArray := jdk_42_method_154_code
theorem d0 : decode yB 0 = .ok (.getstatic 38, 3) := by decide +kernel
theorem d3 : decode yB 3 = .ok (.ifCond (.eq) 14, 3) := by decide +kernel
theorem d6 : decode yB 6 = .ok (.aload_n 0, 1) := by decide +kernel
theorem d7 : decode yB 7 = .ok (.getfield 15, 3) := by decide +kernel
theorem d10 : decode yB 10 = .ok (.ifCond (.ne) 7, 3) := by decide +kernel
theorem d13 : decode yB 13 = .ok (.iconst 1, 1) := by decide +kernel
theorem d14 : decode yB 14 = .ok (.goto 4, 3) := by decide +kernel
theorem d17 : decode yB 17 = .ok (.iconst 0, 1) := by decide +kernel
theorem d18 : decode yB 18 = .ok (.ireturn, 1) := by decide +kernel
def site : List Cond := [.fieldLink "java/lang/String" 38 "java/lang/String" "COMPACT_STRINGS" "Z", .fieldLink "java/lang/String" 15 "java/lang/String" "coder" "B"]
def tab : Cond := tabOf yN yB 1 (some .boolean) site
def P (x : Addr) (cd z : Int32) (args : Array Value) (s : State) : Prop := args = #[.ref x] ∧ Has x "java/lang/String" "coder" "B" (.int cd) s ∧ (cd = 0 ∨ cd = 1) ∧ StaticIs s "java/lang/String" "COMPACT_STRINGS" "Z" (.int z) ∧ ¬ z = 0
def E (cd : Int32) (r : Option Value) (s u : State) : Prop := XT.PureE (some (.int (1 - cd))) r s u
theorem law (l : Launch) (x : Addr) (cd z : Int32) : Law l yN 1 0 0 0 yB 1 (some .boolean) site (P x cd z) (E cd) [] 0 0 := by
  refine Law.of_walk (plainFor_of_name (by decide +kernel)) (by decide +kernel) (by decide +kernel) (by decide) (fun _ _ h => by rw [h.1]; rfl) (fun _ U U' hal hh h => ⟨h.1, h.2.1.mv hal hh, h.2.2.1, h.2.2.2.1.there hal hh, h.2.2.2.2⟩) (fun r U U' V V' h1 hal h2 h => XT.PureE.mv r U U' V V' h1 hal h2 h) ?_
  intro p e s m args below meth c s₁ X0 hexec hbytes hml hret hlk hnm hown hh0 W hP
  obtain ⟨rfl, hx, hc, s1, hz⟩ := hP
  have c1 : Steps p.tables e below (s₁.setTop (entryFrame m #[.ref x] 1)) (s₁.setTop (mkF m 0 #[.val (.ref x)] [])) := entry rfl
  obtain ⟨T2, X2, q2, st2⟩ := X0.sget hexec hown (wk W (.fieldLink "java/lang/String" 38 "java/lang/String" "COMPACT_STRINGS" "Z")) s1 (fun _ _ h => by rw [hh0]; exact h) (g := (mkF m 0 #[.val (.ref x)] [])) rfl (hb hbytes d0)
  have hh2 := q2.trans hh0
  have c3 : Steps p.tables e below (s₁.setTop (entryFrame m #[.ref x] 1)) (T2.setTop (mkF m 7 #[.val (.ref x)] [.ref x])) := (c1.trans (st2 _ (Steps.refl _))).trans (by
    refine XS.ifNo X2.here hexec rfl (hb hbytes d3) rfl (i0_eq_f hz) ?_
    refine XS.aloadN X2.here hexec rfl (hb hbytes d6) rfl rfl ?_
    exact Steps.refl _)
  obtain ⟨T4, X4, q4, st4⟩ := X2.hget hexec hown (wk W (.fieldLink "java/lang/String" 15 "java/lang/String" "coder" "B")) (hx.mv X2.warmed.alike hh2) (g := (mkF m 7 #[.val (.ref x)] [.ref x])) rfl (rest := []) rfl (hb hbytes d7)
  have c5 : Steps p.tables e below (s₁.setTop (entryFrame m #[.ref x] 1)) (T4.setTop (mkF m 10 #[.val (.ref x)] [.int cd])) := c3.trans (st4 _ (Steps.refl _))
  have c6 : Steps p.tables e below (s₁.setTop (entryFrame m #[.ref x] 1)) (T4.setTop (mkF m 18 #[.val (.ref x)] [.int (1 - cd)])) := by
    rcases hc with rfl | rfl
    · exact c5.trans (by
        refine XS.ifNo X4.here hexec rfl (hb hbytes d10) rfl (i0_ne_f rfl) ?_
        refine iconstV X4.here hexec rfl 1 (hb hbytes d13) (by decide) ?_
        refine XS.goto X4.here hexec rfl (pc0 := 14) rfl (hb hbytes d14) (by decide) rfl ?_
        exact Steps.refl _)
    · exact c5.trans (by
        refine XS.ifYes X4.here hexec rfl (pc0 := 10) rfl (hb hbytes d10) rfl (i0_ne_t (by decide)) (by decide) rfl ?_
        refine iconstV X4.here hexec rfl 0 (hb hbytes d17) (by decide) ?_
        exact Steps.refl _)
  exact ⟨T4, some (.int (1 - cd)), _, _, _, X4, rfl, rfl, rfl, (fun h => by cases h), ⟨rfl, q4.trans hh2⟩, fun fs hl => c6.trans (X4.ireturnOut hexec hret (by rcases hc with rfl | rfl <;> rfl) (Or.inr (Or.inl rfl)) (hb hbytes d18) hl)⟩
end IsL
namespace LChA
def yN : MethodName := ⟨"java/lang/StringLatin1", "charAt", "([BI)C"⟩
abbrev yB : ByteArray := jdk_43_method_2_code
theorem d0 : decode yB 0 = .ok (.iload_n 1, 1) := by decide +kernel
theorem d1 : decode yB 1 = .ok (.aload_n 0, 1) := by decide +kernel
theorem d2 : decode yB 2 = .ok (.arraylength, 1) := by decide +kernel
theorem d3 : decode yB 3 = .ok (.invokestatic 9, 3) := by decide +kernel
theorem d6 : decode yB 6 = .ok (.aload_n 0, 1) := by decide +kernel
theorem d7 : decode yB 7 = .ok (.iload_n 1, 1) := by decide +kernel
theorem d8 : decode yB 8 = .ok (.baload, 1) := by decide +kernel
theorem d9 : decode yB 9 = .ok (.sipush 255, 3) := by decide +kernel
theorem d12 : decode yB 12 = .ok (.iand, 1) := by decide +kernel
theorem d13 : decode yB 13 = .ok (.i2c, 1) := by decide +kernel
theorem d14 : decode yB 14 = .ok (.ireturn, 1) := by decide +kernel
def site : List Cond := [JO.Str_checkIndex.tab] ++ staticW "java/lang/StringLatin1" 9 JO.Str_checkIndex.yN
def tab : Cond := tabOf yN yB 2 (some .char) site
def P (t : Addr) (V : Cell) (i : Nat) (u : Int32) (fm : Value) (args : Array Value) (s : State) : Prop := args = #[.ref t, .int (Int32.ofNat i)] ∧ XT.Arr .byte t V s ∧ V.slots[i]? = some (.int u) ∧ (StaticIs s "jdk/internal/util/Preconditions" "SIOOBE_FORMATTER" "Ljava/util/function/BiFunction;" fm ∧ fm.isRef = true)
def E (u : Int32) (r : Option Value) (s w : State) : Prop := XT.PureE (some (.int (chr8 u))) r s w
theorem law (l : Launch) (t : Addr) (V : Cell) (i : Nat) (u : Int32) (fm : Value) : Law l yN 2 2 2 27 yB 2 (some .char) site (P t V i u fm) (E u) [] 0 0 := by
  refine Law.of_walk (plainFor_of_name (by decide +kernel)) (by decide +kernel) (by decide +kernel) (by decide) (fun _ _ h => by rw [h.1]; rfl) (fun _ U U' hal hh h => ⟨h.1, h.2.1.mv hal hh, h.2.2.1, h.2.2.2.1.there hal hh, h.2.2.2.2⟩) (fun r U U' V V' h1 hal h2 h => XT.PureE.mv r U U' V V' h1 hal h2 h) ?_
  intro p e s m args below meth c s₁ X0 hexec hbytes hml hret hlk hnm hown hh0 W hP
  obtain ⟨rfl, hV, hu, s1, rf⟩ := hP
  have v31 := hV.2.2.2
  have hi : i < V.slots.size := (Array.getElem?_eq_some_iff.mp hu).1
  have c1 : Steps p.tables e below (s₁.setTop (entryFrame m #[.ref t, .int (Int32.ofNat i)] 2)) (s₁.setTop (mkF m 0 #[.val (.ref t), .val (.int (Int32.ofNat i))] [])) := entry rfl
  have c2 : Steps p.tables e below (s₁.setTop (entryFrame m #[.ref t, .int (Int32.ofNat i)] 2)) (s₁.setTop (mkF m 3 #[.val (.ref t), .val (.int (Int32.ofNat i))] [.int (Int32.ofNat V.slots.size), .int (Int32.ofNat i)])) := c1.trans (by
    refine XS.iloadN X0.here hexec rfl (hb hbytes d0) rfl ?_
    refine XS.aloadN X0.here hexec rfl (hb hbytes d1) rfl rfl ?_
    refine X0.alen hexec (hV.mv X0.warmed.alike hh0) rfl rfl (hb hbytes d2) ?_
    exact Steps.refl _)
  obtain ⟨v3, T3, X3, E3, g3⟩ := X0.callS hexec (JO.Str_checkIndex.law l (Int32.ofNat i) (Int32.ofNat V.slots.size) fm) hown (wks W (staticW "java/lang/StringLatin1" 9 JO.Str_checkIndex.yN)) (wk W JO.Str_checkIndex.tab) (W := 0) (Nat.le_of_ble_eq_true rfl) (Nat.le_of_ble_eq_true rfl) (Nat.le_refl _) (Nat.le_refl _) (g := (mkF m 3 #[.val (.ref t), .val (.int (Int32.ofNat i))] [.int (Int32.ofNat V.slots.size), .int (Int32.ofNat i)])) rfl (by rw [hml]; rfl) c2 (argsL := [.int (Int32.ofNat i), .int (Int32.ofNat V.slots.size)]) (rest := []) rfl rfl (by show 2 * 0 + 0 ≤ _; decide) (hb hbytes d3) (⟨rfl, rf, s1.there X0.warmed.alike hh0, Int32.ofNat_not_neg (by omega), lt32 v31 hi⟩)
  obtain ⟨rfl, q3⟩ := E3
  have hh3 := q3.trans hh0
  have c4 : Steps p.tables e below (s₁.setTop (entryFrame m #[.ref t, .int (Int32.ofNat i)] 2)) (T3.setTop (mkF m 14 #[.val (.ref t), .val (.int (Int32.ofNat i))] [.int (chr8 u)])) := Steps.trans g3 (by
    refine XS.aloadN X3.here hexec rfl (hb hbytes d6) rfl rfl ?_
    refine XS.iloadN X3.here hexec rfl (hb hbytes d7) rfl ?_
    refine X3.aget hexec (hV.mv X3.warmed.alike hh3) rfl hu rfl rfl (hb hbytes d8) ?_
    refine sipushV X3.here hexec rfl 255 (hb hbytes d9) (by decide) ?_
    refine XS.iand X3.here hexec rfl (hb hbytes d12) rfl ?_
    refine i2c X3.here hexec rfl (hb hbytes d13) rfl ?_
    exact Steps.refl _)
  exact ⟨T3, some (.int (chr8 u)), _, _, _, X3, rfl, rfl, rfl, (fun h => by cases h), ⟨rfl, hh3⟩, fun fs hl => c4.trans (X3.ireturnOut hexec hret (narrow_c _) (Or.inr (Or.inr (Or.inr (Or.inl rfl)))) (hb hbytes d14) hl)⟩
end LChA
end StrChars
namespace StrChars.Road
open Jvm Sem ClassFile Op Lib Jvm.Stand Jvm.Free Jvm.Free.XT
open Jvm.Lib.Cold (StaticIs)
theorem consq {a : Array Value} {s : State} {c : Jvm.Cond} {L : List Jvm.Cond} (h0 : c.before a s = true) (h : ∀ w ∈ L, w.before a s = true) : ∀ w ∈ c :: L, w.before a s = true := fun w hw => (List.mem_cons.mp hw).elim (fun e => e ▸ h0) (h w)
/-- the words of String.length(), either coding -/
abbrev wordsLen : List Jvm.Cond := [.code Len.yN Len.yB 1 (some .int), .initialized ST, .fieldLink ST 9 ST "value" "[B", .fieldLink ST 38 ST "COMPACT_STRINGS" "Z", .fieldLink ST 15 ST "coder" "B", .code Cdr.yN Cdr.yB 1 (some .byte), .methodLink ST 335 Cdr.yN, .declares Cdr.yN, .selects ST Cdr.yN Cdr.yN, .instanceMethod Cdr.yN]
theorem tabLen_of {a : Array Value} {s : State} (h : ∀ w ∈ wordsLen, w.before a s = true) : Len.tab.before a s = true := by
  have hc : Cdr.tab.before a s = true := unparts (wk h (.code Cdr.yN Cdr.yB 1 (some .byte))) (wks h (.initialized Cdr.yN.cls :: Cdr.site))
  have q := consq hc h
  exact unparts (wk q (.code Len.yN Len.yB 1 (some .int))) (wks q (.initialized Len.yN.cls :: Len.site))
theorem movedLen {Z s : State} {a0 args : Array Value} (hZ : Z.Warmed39 s.vm) (hw : ∀ d ∈ wordsLen, d.before a0 Z = true) : ∀ d ∈ wordsLen, d.before args s = true := fun d hd => by
  have q := hw d hd
  have t : ∀ d ∈ wordsLen, d = .arrayClass .byte ∨ (d.onTables && d.keepsFace) = true := by decide +kernel
  rcases t d hd with rfl | t
  · exact RoadKit.mvA hZ q
  · exact RoadKit.mv hZ q t
/-- the bytes of the chars cs, low before high -/
def wideBytes : List Int32 → List Value
  | [] => []
  | c :: cs => .int (lo8 c) :: .int (hi8 c) :: wideBytes cs
theorem wide_lo (d : Value) : ∀ (cs : List Int32) (j : Nat), j < cs.length → (wideBytes cs).getD (2 * j) d = .int (lo8 (cs.getD j 0))
  | [], j, h => absurd h (Nat.not_lt_zero j)
  | c :: cs, 0, _ => rfl
  | c :: cs, j + 1, h => by
    have q := wide_lo d cs j (by simpa using h)
    rw [show 2 * (j + 1) = 2 * j + 1 + 1 from by omega]
    simpa [wideBytes] using q
theorem wide_hi (d : Value) : ∀ (cs : List Int32) (j : Nat), j < cs.length → (wideBytes cs).getD (2 * j + 1) d = .int (hi8 (cs.getD j 0))
  | [], j, h => absurd h (Nat.not_lt_zero j)
  | c :: cs, 0, _ => rfl
  | c :: cs, j + 1, h => by
    have q := wide_hi d cs j (by simpa using h)
    rw [show 2 * (j + 1) + 1 = 2 * j + 1 + 1 + 1 from by omega]
    simpa [wideBytes] using q
theorem low_at (d : Value) (cs : List Int32) (j : Nat) (h : j < cs.length) : (cs.map fun c => Value.int (lo8 c)).getD j d = .int (lo8 (cs.getD j 0)) := by
  simp [List.getD_eq_getElem?_getD, h]
/-- an array of N2 bytes vs codes the chars cs by the coder cd -/
def CodA (cs : List Int32) (cd N2 : Int32) (vs : List Value) : Prop := (cd = 0 ∧ N2 = Int32.ofNat cs.length ∧ vs = (cs.map fun c => Value.int (lo8 c)) ∧ ∀ c ∈ cs, ¬ 255 < c) ∨ (cd = 1 ∧ N2 = Int32.ofNat (2 * cs.length) ∧ vs = wideBytes cs ∧ ∃ c ∈ cs, 255 < c)
theorem CodA.cod {cs : List Int32} {cd N2 : Int32} {vs : List Value} {V : Cell} (h : CodA cs cd N2 vs) (hn : 2 * cs.length < 2 ^ 31) (hs : V.slots.size = N2.toNatClampNeg) (hv : RoadKit.Has V vs (.int 0)) : Cod cd cs.length (fun j => cs.getD j 0) V := by
  rcases h with ⟨rfl, rfl, rfl, h⟩ | ⟨rfl, rfl, rfl, c, hc, hw⟩
  · rw [n32 (by omega)] at hs
    exact Or.inl ⟨rfl, hs, fun j hj => ⟨by rw [hv j (by omega), low_at _ _ _ hj], by
      have e : cs.getD j 0 = cs[j] := by simp [List.getD_eq_getElem?_getD, hj]
      show ¬ 255 < cs.getD j 0
      rw [e]; exact h _ (List.getElem_mem _)⟩⟩
  · rw [n32 (by omega)] at hs
    obtain ⟨j, hj, rfl⟩ := List.getElem_of_mem hc
    exact Or.inr ⟨rfl, hs, fun j hj => ⟨by rw [hv _ (by omega), wide_lo _ _ _ hj], by rw [hv _ (by omega), wide_hi _ _ _ hj]⟩, j, hj, by
      have e : cs.getD j 0 = cs[j] := by simp [List.getD_eq_getElem?_getD, hj]
      show 255 < cs.getD j 0
      rw [e]; exact hw⟩
/-- an object of exactly java/lang/String, its two fields found: as the laws ask it -/
theorem strObj {Z U : State} {a0 : Array Value} {kI : Nat} (wi : (Jvm.Cond.instantiable ST kI).before a0 Z = true) (al : Z.vm.Alike U.vm) {x : Addr} {v0 c0 : Value} (E : RoadKit.Exa Z U.heap x ST) (V : RoadKit.Fld Z U.heap x ST "value" "[B" v0) (C : RoadKit.Fld Z U.heap x ST "coder" "B" c0) :
    ∃ (D : Cell) (fV fC : Field), Blank ST x D U ∧ Found ST "value" "[B" fV U ∧ Found ST "coder" "B" fC U ∧ D.slots[fV.slot]? = some v0 ∧ D.slots[fC.slot]? = some c0 ∧ RoadKit.slotOf Z ST "value" "[B" = fV.slot ∧ RoadKit.slotOf Z ST "coder" "B" = fC.slot := by
  obtain ⟨D, cfV, kV, iV, fV, hD, gV, stV, knV, obV, asV, slV⟩ := V
  obtain ⟨D', cfC, kC, iC, fC, hD', gC, stC, -, -, asC, slC⟩ := C
  cases hD.symm.trans hD'
  obtain ⟨D2, kD, e1, e2, e3, e4, e5⟩ := E
  cases hD.symm.trans e1
  obtain ⟨c2, k2, i1, i2, i3, -⟩ := Cond.instantiable_spec wi
  cases e2.symm.trans i1
  cases e3.symm.trans i2
  obtain ⟨kU, u1, u2⟩ := al.2.2 _ _ e3
  exact ⟨D, fV, fC, ⟨hD, ⟨knV, fun q hq => by rw [hq] at obV; cases obV⟩, by rw [al.findClass]; exact e2, kU, u1, by rw [u2]; exact i3, by rw [u2]; exact e5 i3⟩, ⟨SBG.found_only al ⟨cfV, kV, iV, gV⟩, stV⟩, ⟨SBG.found_only al ⟨cfC, kC, iC, gC⟩, stC⟩, slV, slC, by simp [RoadKit.slotOf, gV], by simp [RoadKit.slotOf, gC]⟩
theorem sta_is {Z U : State} (al : Z.vm.Alike U.vm) {C n d : String} {v : Value} (S : RoadKit.Sta Z U.heap C n d v) : StaticIs U C n d v := by
  obtain ⟨cfS, iS, kS, fS, st, cS, t1, t2, t3, t4, t5, t6, t7⟩ := S
  exact StaticIs.there (s := { Z with heap := U.heap }) ⟨cfS, iS, kS, fS, st, cS, t1, t2, t3, t4, t5, (fun q => by rw [q] at t6; cases t6), t7⟩ al rfl
/-- **length() OF SUCH A STRING** -/
theorem lenW {p : Program} {l : Launch} {e : Env} {R : Room} {s : State} {args : Array Value} {below : List Frame} {len W : Nat} {Z : State} {a0 : Array Value} {h : Heap} (hZ : Z.Warmed39 s.vm) (hw : ∀ d ∈ wordsLen, d.before a0 Z = true) {kI : Nat} (wi : (Jvm.Cond.instantiable ST kI).before a0 Z = true)
    {x t : Addr} {kb : ClassId} {cs : List Int32} {cd N2 z : Int32} {vs : List Value} (E : RoadKit.Exa Z h x ST) (V : RoadKit.Fld Z h x ST "value" "[B" (.ref t)) (C : RoadKit.Fld Z h x ST "coder" "B" (.int cd)) (K : RoadKit.Arv Z h t kb .byte N2 vs (.int 0)) (hc : CodA cs cd N2 vs) (hb : ∀ c ∈ cs, ¬ c < 0 ∧ ¬ (65535 : Int32) < c)
    (S : RoadKit.Sta Z h ST "COMPACT_STRINGS" "Z" (.int z)) (hz : ¬ z = 0) (l2 : cs.length ≤ 4000) (hfr : 2 ≤ R.frames) (hlo : W + 25 ≤ R.locals) :
    Back l R p e below s args (⟨"java/lang/String", "length", "()I"⟩ : MethodName) len W (fun P a => a = #[.ref x] ∧ P.U.heap = h ∧ P.cells + 0 ≤ R.cells ∧ P.slots + 0 ≤ R.slots)
      (fun P _ v B => ∃ L, (v = some (.int (Int32.ofNat cs.length)) ∧ L = [] ∧ B.U.heap = h) ∧ B.locs = P.locs ++ L ∧ B.cells = P.cells + 0 ∧ B.slots = P.slots + 0) := by
  obtain ⟨A, K1, K2, K3, K4, K5, K6⟩ := K
  have hcod := hc.cod (by omega) K3 K5
  intro m meth c P g ig mk a X hg hsize hdg hW hn hp'
  obtain ⟨rfl, rfl, r1, r2⟩ := hp'
  have al : Z.vm.Alike P.U.vm := hZ.alike.trans X.warmed.alike
  obtain ⟨D, fV, fC, hB, F1, F2, g1, g2, -, -⟩ := strObj wi al E V C
  have hx : Txt x t A cd cs.length (fun j => cs.getD j 0) P.U := ⟨⟨_, hB.2.2.1, D, hB.1, rfl, by cases q : D.vm <;> first | rfl | exact absurd q (hB.2.1.2 _)⟩, Has.of hB F1 g1, Has.of hB F2 g2, ⟨K1.1, State.isArrayOf_alike al K1.2.1, K1.2.2, by rcases hcod with ⟨-, q, -⟩ | ⟨-, q, -⟩ <;> omega⟩, hcod, fun j hj => by
    have e : cs.getD j 0 = cs[j] := by simp [List.getD_eq_getElem?_getD, hj]
    show ¬ cs.getD j 0 < 0 ∧ ¬ 65535 < cs.getD j 0
    rw [e]; exact hb _ (List.getElem_mem _)⟩
  obtain ⟨v, B, X', ⟨⟨hv, hh⟩, hl, hk, hs⟩, st⟩ := Len.pays x t A cd cs.length (fun j => cs.getD j 0) z (tabLen_of (movedLen hZ hw)) hfr hlo m meth c P g ig mk _ X hg hsize hdg hW hn ⟨r1, r2, rfl, hx, sta_is al S, hz⟩
  exact ⟨v, B, X', ⟨[], ⟨hv, rfl, hh⟩, hl, hk, hs⟩, st⟩
end StrChars.Road
namespace StrChars
open Jvm Sem ClassFile Op Lib Jvm.Stand Jvm.Free.XT Jvm.Free.ALB Jvm.Free.JM Jvm.Free
open Jvm.Lib.Cold (StaticIs)
namespace Emp
def yN : MethodName := ⟨"java/lang/String", "isEmpty", "()Z"⟩
abbrev yB : ByteArray := jdk_42_method_55_code
theorem d0 : decode yB 0 = .ok (.aload_n 0, 1) := by decide +kernel
theorem d1 : decode yB 1 = .ok (.getfield 9, 3) := by decide +kernel
theorem d4 : decode yB 4 = .ok (.arraylength, 1) := by decide +kernel
theorem d5 : decode yB 5 = .ok (.ifCond (.ne) 7, 3) := by decide +kernel
theorem d8 : decode yB 8 = .ok (.iconst 1, 1) := by decide +kernel
theorem d9 : decode yB 9 = .ok (.goto 4, 3) := by decide +kernel
theorem d12 : decode yB 12 = .ok (.iconst 0, 1) := by decide +kernel
theorem d13 : decode yB 13 = .ok (.ireturn, 1) := by decide +kernel
def site : List Cond := [.fieldLink "java/lang/String" 9 "java/lang/String" "value" "[B"]
def tab : Cond := tabOf yN yB 1 (some .boolean) site
def P (x t : Addr) (V : Cell) (cd : Int32) (n : Nat) (f : Nat → Int32) (args : Array Value) (s : State) : Prop := args = #[.ref x] ∧ Txt x t V cd n f s
def E (n : Nat) (r : Option Value) (s u : State) : Prop := XT.PureE (some (.int (if n = 0 then 1 else 0))) r s u
/-- isEmpty() of a String of n chars -/
theorem law (l : Launch) (x t : Addr) (V : Cell) (cd : Int32) (n : Nat) (f : Nat → Int32) : Law l yN 1 0 0 0 yB 1 (some .boolean) site (P x t V cd n f) (E n) [] 0 0 := by
  refine Law.of_walk (plainFor_of_name (by decide +kernel)) (by decide +kernel) (by decide +kernel) (by decide) (fun _ _ h => by rw [h.1]; rfl) (fun _ U U' hal hh h => ⟨h.1, h.2.mv hal hh⟩) (fun r U U' V V' h1 hal h2 h => XT.PureE.mv r U U' V V' h1 hal h2 h) ?_
  intro p e s m args below meth c s₁ X0 hexec hbytes hml hret hlk hnm hown hh0 W hP
  obtain ⟨rfl, hx⟩ := hP
  have v31 := hx.2.2.2.1.2.2.2
  have c1 : Steps p.tables e below (s₁.setTop (entryFrame m #[.ref x] 1)) (s₁.setTop (mkF m 1 #[.val (.ref x)] [.ref x])) := Steps.trans (entry rfl) (by
    show Steps p.tables e below (s₁.setTop (mkF m 0 #[.val (.ref x)] [])) _
    refine XS.aloadN X0.here hexec rfl (hb hbytes d0) rfl rfl ?_
    exact Steps.refl _)
  obtain ⟨T2, X2, q2, st2⟩ := X0.hget hexec hown (wk W (.fieldLink "java/lang/String" 9 "java/lang/String" "value" "[B")) (hx.mv X0.warmed.alike hh0).2.1 (g := (mkF m 1 #[.val (.ref x)] [.ref x])) rfl (rest := []) rfl (hb hbytes d1)
  have hh2 := q2.trans hh0
  have hx2 := hx.mv X2.warmed.alike hh2
  have c3 : Steps p.tables e below (s₁.setTop (entryFrame m #[.ref x] 1)) (T2.setTop (mkF m 5 #[.val (.ref x)] [.int (Int32.ofNat V.slots.size)])) := (c1.trans (st2 _ (Steps.refl _))).trans (by
    refine X2.alen hexec hx2.2.2.2.1 rfl rfl (hb hbytes d4) ?_
    exact Steps.refl _)
  have hz : V.slots.size = 0 ↔ n = 0 := by
    rcases hx.2.2.2.2.1 with ⟨-, q, -⟩ | ⟨-, q, -⟩ <;> omega
  by_cases h0 : n = 0
  · have c4 : Steps p.tables e below (s₁.setTop (entryFrame m #[.ref x] 1)) (T2.setTop (mkF m 13 #[.val (.ref x)] [.int 1])) := c3.trans (by
      refine XS.ifNo X2.here hexec rfl (hb hbytes d5) rfl (i0_ne_f (by rw [hz.mpr h0]; rfl)) ?_
      refine iconstV X2.here hexec rfl 1 (hb hbytes d8) (by decide) ?_
      refine XS.goto X2.here hexec rfl (pc0 := 9) rfl (hb hbytes d9) (by decide) rfl ?_
      exact Steps.refl _)
    exact ⟨T2, some (.int 1), _, _, _, X2, rfl, rfl, rfl, (fun h => by cases h), ⟨by rw [if_pos h0], hh2⟩, fun fs hl => c4.trans (X2.ireturnOut hexec hret rfl (Or.inr (Or.inl rfl)) (hb hbytes d13) hl)⟩
  · have c4 : Steps p.tables e below (s₁.setTop (entryFrame m #[.ref x] 1)) (T2.setTop (mkF m 13 #[.val (.ref x)] [.int 0])) := c3.trans (by
      refine XS.ifYes X2.here hexec rfl (pc0 := 5) rfl (hb hbytes d5) rfl (i0_ne_t (nz32 v31 (by omega))) (by decide) rfl ?_
      refine iconstV X2.here hexec rfl 0 (hb hbytes d12) (by decide) ?_
      exact Steps.refl _)
    exact ⟨T2, some (.int 0), _, _, _, X2, rfl, rfl, rfl, (fun h => by cases h), ⟨by rw [if_neg h0], hh2⟩, fun fs hl => c4.trans (X2.ireturnOut hexec hret rfl (Or.inr (Or.inl rfl)) (hb hbytes d13) hl)⟩
theorem pays {l : Launch} {R : Room} {p : Program} {e : Env} {below : List Frame} {s : State} {sargs : Array Value} {len W : Nat} (x t : Addr) (V : Cell) (cd : Int32) (n : Nat) (f : Nat → Int32) (htab : tab.before sargs s = true) (hfr : 1 ≤ R.frames) (hlo : W + 12 ≤ R.locals) :
    Back l R p e below s sargs yN len W (fun A₁ a₁ => A₁.cells + 0 ≤ R.cells ∧ A₁.slots + 0 ≤ R.slots ∧ P x t V cd n f a₁ A₁.U) (fun A₁ _ v₁ B₁ => E n v₁ A₁.U B₁.U ∧ B₁.locs = A₁.locs ++ [] ∧ B₁.cells = A₁.cells + 0 ∧ B₁.slots = A₁.slots + 0) :=
  (law l x t V cd n f).pays htab hfr (by omega)
end Emp
end StrChars
namespace StrChars.Road
open Jvm Sem ClassFile Op Lib Jvm.Stand Jvm.Free Jvm.Free.XT
open Jvm.Lib.Cold (StaticIs)
/-- the words of String.isEmpty() -/
abbrev wordsEmp : List Jvm.Cond := [.code Emp.yN Emp.yB 1 (some .boolean), .initialized ST, .fieldLink ST 9 ST "value" "[B"]
theorem tabEmp_of {a : Array Value} {s : State} (h : ∀ w ∈ wordsEmp, w.before a s = true) : Emp.tab.before a s = true := unparts (wk h (.code Emp.yN Emp.yB 1 (some .boolean))) (wks h (.initialized Emp.yN.cls :: Emp.site))
theorem movedEmp {Z s : State} {a0 args : Array Value} (hZ : Z.Warmed39 s.vm) (hw : ∀ d ∈ wordsEmp, d.before a0 Z = true) : ∀ d ∈ wordsEmp, d.before args s = true := fun d hd => by
  have t : ∀ d ∈ wordsEmp, (d.onTables && d.keepsFace) = true := by decide +kernel
  exact RoadKit.mv hZ (hw d hd) (t d hd)
/-- the road's facts of a String, as the laws ask it -/
theorem txt_of {Z U : State} {a0 : Array Value} {kI : Nat} (wi : (Jvm.Cond.instantiable ST kI).before a0 Z = true) (al : Z.vm.Alike U.vm) {x t : Addr} {kb : ClassId} {cs : List Int32} {cd N2 : Int32} {vs : List Value} (E : RoadKit.Exa Z U.heap x ST) (V : RoadKit.Fld Z U.heap x ST "value" "[B" (.ref t)) (C : RoadKit.Fld Z U.heap x ST "coder" "B" (.int cd)) (K : RoadKit.Arv Z U.heap t kb .byte N2 vs (.int 0)) (hc : CodA cs cd N2 vs) (hb : ∀ c ∈ cs, ¬ c < 0 ∧ ¬ (65535 : Int32) < c) (l2 : cs.length ≤ 4000) :
    ∃ A, Txt x t A cd cs.length (fun j => cs.getD j 0) U := by
  obtain ⟨A, K1, K2, K3, K4, K5, K6⟩ := K
  have hcod := hc.cod (by omega) K3 K5
  obtain ⟨D, fV, fC, hB, F1, F2, g1, g2, -, -⟩ := strObj wi al E V C
  exact ⟨A, ⟨_, hB.2.2.1, D, hB.1, rfl, by cases q : D.vm <;> first | rfl | exact absurd q (hB.2.1.2 _)⟩, Has.of hB F1 g1, Has.of hB F2 g2, ⟨K1.1, State.isArrayOf_alike al K1.2.1, K1.2.2, by rcases hcod with ⟨-, q, -⟩ | ⟨-, q, -⟩ <;> omega⟩, hcod, fun j hj => by
    have e : cs.getD j 0 = cs[j] := by simp [List.getD_eq_getElem?_getD, hj]
    show ¬ cs.getD j 0 < 0 ∧ ¬ 65535 < cs.getD j 0
    rw [e]; exact hb _ (List.getElem_mem _)⟩
/-- **isEmpty() OF SUCH A STRING** -/
theorem empW {p : Program} {l : Launch} {e : Env} {R : Room} {s : State} {args : Array Value} {below : List Frame} {len W : Nat} {Z : State} {a0 : Array Value} {h : Heap} (hZ : Z.Warmed39 s.vm) (hw : ∀ d ∈ wordsEmp, d.before a0 Z = true) {kI : Nat} (wi : (Jvm.Cond.instantiable ST kI).before a0 Z = true)
    {x t : Addr} {kb : ClassId} {cs : List Int32} {cd N2 : Int32} {vs : List Value} (E : RoadKit.Exa Z h x ST) (V : RoadKit.Fld Z h x ST "value" "[B" (.ref t)) (C : RoadKit.Fld Z h x ST "coder" "B" (.int cd)) (K : RoadKit.Arv Z h t kb .byte N2 vs (.int 0)) (hc : CodA cs cd N2 vs) (hb : ∀ c ∈ cs, ¬ c < 0 ∧ ¬ (65535 : Int32) < c) (l2 : cs.length ≤ 4000) (hfr : 1 ≤ R.frames) (hlo : W + 12 ≤ R.locals) :
    Back l R p e below s args (⟨"java/lang/String", "isEmpty", "()Z"⟩ : MethodName) len W (fun P a => a = #[.ref x] ∧ P.U.heap = h ∧ P.cells + 0 ≤ R.cells ∧ P.slots + 0 ≤ R.slots)
      (fun P _ v B => ∃ L, (v = some (.int (if cs.length = 0 then 1 else 0)) ∧ L = [] ∧ B.U.heap = h) ∧ B.locs = P.locs ++ L ∧ B.cells = P.cells + 0 ∧ B.slots = P.slots + 0) := by
  intro m meth c P g ig mk a X hg hsize hdg hW hn hp'
  obtain ⟨rfl, rfl, r1, r2⟩ := hp'
  have al : Z.vm.Alike P.U.vm := hZ.alike.trans X.warmed.alike
  obtain ⟨A, hx⟩ := txt_of wi al E V C K hc hb l2
  obtain ⟨v, B, X', ⟨⟨hv, hh⟩, hl, hk, hs⟩, st⟩ := Emp.pays x t A cd cs.length (fun j => cs.getD j 0) (tabEmp_of (movedEmp hZ hw)) hfr hlo m meth c P g ig mk _ X hg hsize hdg hW hn ⟨r1, r2, rfl, hx⟩
  exact ⟨v, B, X', ⟨[], ⟨hv, rfl, hh⟩, hl, hk, hs⟩, st⟩
end StrChars.Road
namespace StrChars
open Jvm Sem ClassFile Op Lib Jvm.Stand Jvm.Free.XT Jvm.Free.ALB Jvm.Free.JM Jvm.Free
open Jvm.Lib.Cold (StaticIs)
namespace ChN
def yN : MethodName := ⟨"java/lang/String", "charAt", "(I)C"⟩
abbrev yB : ByteArray := jdk_42_method_56_code
theorem d0 : decode yB 0 = .ok (.aload_n 0, 1) := by decide +kernel
theorem d1 : decode yB 1 = .ok (.invokevirtual 492, 3) := by decide +kernel
theorem d4 : decode yB 4 = .ok (.ifCond (.eq) 12, 3) := by decide +kernel
theorem d7 : decode yB 7 = .ok (.aload_n 0, 1) := by decide +kernel
theorem d8 : decode yB 8 = .ok (.getfield 9, 3) := by decide +kernel
theorem d11 : decode yB 11 = .ok (.iload_n 1, 1) := by decide +kernel
theorem d12 : decode yB 12 = .ok (.invokestatic 495, 3) := by decide +kernel
theorem d15 : decode yB 15 = .ok (.ireturn, 1) := by decide +kernel
def site : List Cond := [.fieldLink "java/lang/String" 9 "java/lang/String" "value" "[B", IsL.tab, LChA.tab] ++ virtW "java/lang/String" 492 "java/lang/String" IsL.yN IsL.yN ++ staticW "java/lang/String" 495 LChA.yN
def tab : Cond := tabOf yN yB 2 (some .char) site
def P (x t : Addr) (V : Cell) (n : Nat) (f : Nat → Int32) (z : Int32) (fm : Value) (i : Nat) (args : Array Value) (s : State) : Prop := args = #[.ref x, .int (Int32.ofNat i)] ∧ Txt x t V 0 n f s ∧ i < n ∧ StaticIs s "java/lang/String" "COMPACT_STRINGS" "Z" (.int z) ∧ ¬ z = 0 ∧ StaticIs s "jdk/internal/util/Preconditions" "SIOOBE_FORMATTER" "Ljava/util/function/BiFunction;" fm ∧ fm.isRef = true
def E (f : Nat → Int32) (i : Nat) (r : Option Value) (s u : State) : Prop := XT.PureE (some (.int (f i))) r s u
/-- charAt(i) of a Latin-1 String of n chars, i < n: f i -/
theorem law (l : Launch) (x t : Addr) (V : Cell) (n : Nat) (f : Nat → Int32) (z : Int32) (fm : Value) (i : Nat) : Law l yN 2 1 3 40 yB 2 (some .char) site (P x t V n f z fm i) (E f i) [] 0 0 := by
  refine Law.of_walk (plainFor_of_name (by decide +kernel)) (by decide +kernel) (by decide +kernel) (by decide) (fun _ _ h => by rw [h.1]; rfl) (fun _ U U' hal hh h => ⟨h.1, h.2.1.mv hal hh, h.2.2.1, h.2.2.2.1.there hal hh, h.2.2.2.2.1, h.2.2.2.2.2.1.there hal hh, h.2.2.2.2.2.2⟩) (fun r U U' V V' h1 hal h2 h => XT.PureE.mv r U U' V V' h1 hal h2 h) ?_
  intro p e s m args below meth c s₁ X0 hexec hbytes hml hret hlk hnm hown hh0 W hP
  obtain ⟨rfl, hx, hi, s1, hz, s3, rf⟩ := hP
  have v31 := hx.2.2.2.1.2.2.2
  have hr := hx.2.2.2.2.2 i hi
  have hx0 := hx.mv X0.warmed.alike hh0
  have c1 : Steps p.tables e below (s₁.setTop (entryFrame m #[.ref x, .int (Int32.ofNat i)] 2)) (s₁.setTop (mkF m 1 #[.val (.ref x), .val (.int (Int32.ofNat i))] [.ref x])) := Steps.trans (entry rfl) (by
    show Steps p.tables e below (s₁.setTop (mkF m 0 #[.val (.ref x), .val (.int (Int32.ofNat i))] [])) _
    refine XS.aloadN X0.here hexec rfl (hb hbytes d0) rfl rfl ?_
    exact Steps.refl _)
  obtain ⟨v2, T2, X2, E2, g2⟩ := X0.callV hexec (IsL.law l x 0 z) hown (wks W (virtW "java/lang/String" 492 "java/lang/String" IsL.yN IsL.yN)) rfl (by decide) (wk W IsL.tab) (W := 0) (Nat.le_of_ble_eq_true rfl) (Nat.le_of_ble_eq_true rfl) (Nat.le_refl _) (Nat.le_refl _) (hx0.1.fc X0.warmed.alike) hx0.1.is (g := (mkF m 1 #[.val (.ref x), .val (.int (Int32.ofNat i))] [.ref x])) rfl (by rw [hml]; rfl) c1 (argsL := []) (rest := []) rfl rfl (by show 2 * 0 + 0 ≤ _; decide) (hb hbytes d1) (⟨rfl, hx0.2.2.1, hx.2.2.2.2.1.cd, s1.there X0.warmed.alike hh0, hz⟩)
  obtain ⟨rfl, q2⟩ := E2
  have hh2 := q2.trans hh0
  have hx2 := hx.mv X2.warmed.alike hh2
  obtain ⟨-, k1, k2⟩ | ⟨k0, -⟩ := hx.2.2.2.2.1
  · have c3 : Steps p.tables e below (s₁.setTop (entryFrame m #[.ref x, .int (Int32.ofNat i)] 2)) (T2.setTop (mkF m 8 #[.val (.ref x), .val (.int (Int32.ofNat i))] [.ref x])) := Steps.trans g2 (by
      refine XS.ifNo X2.here hexec rfl (hb hbytes d4) rfl (i0_eq_f (by decide)) ?_
      refine XS.aloadN X2.here hexec rfl (hb hbytes d7) rfl rfl ?_
      exact Steps.refl _)
    obtain ⟨T4, X4, q4, st4⟩ := X2.hget hexec hown (wk W (.fieldLink "java/lang/String" 9 "java/lang/String" "value" "[B")) hx2.2.1 (g := (mkF m 8 #[.val (.ref x), .val (.int (Int32.ofNat i))] [.ref x])) rfl (rest := []) rfl (hb hbytes d8)
    have hh4 := q4.trans hh2
    have c5 : Steps p.tables e below (s₁.setTop (entryFrame m #[.ref x, .int (Int32.ofNat i)] 2)) (T4.setTop (mkF m 12 #[.val (.ref x), .val (.int (Int32.ofNat i))] [.int (Int32.ofNat i), .ref t])) := (c3.trans (st4 _ (Steps.refl _))).trans (by
      refine XS.iloadN X4.here hexec rfl (hb hbytes d11) rfl ?_
      exact Steps.refl _)
    obtain ⟨v6, T6, X6, E6, g6⟩ := X4.callS hexec (LChA.law l t V i (lo8 (f i)) fm) hown (wks W (staticW "java/lang/String" 495 LChA.yN)) (wk W LChA.tab) (W := 0) (Nat.le_of_ble_eq_true rfl) (Nat.le_of_ble_eq_true rfl) (Nat.le_refl _) (Nat.le_refl _) (g := (mkF m 12 #[.val (.ref x), .val (.int (Int32.ofNat i))] [.int (Int32.ofNat i), .ref t])) rfl (by rw [hml]; rfl) c5 (argsL := [.ref t, .int (Int32.ofNat i)]) (rest := []) rfl rfl (by show 2 * 0 + 0 ≤ _; decide) (hb hbytes d12) (⟨rfl, hx.2.2.2.1.mv X4.warmed.alike hh4, (k2 i hi).1, s3.there X4.warmed.alike hh4, rf⟩)
    obtain ⟨rfl, q6⟩ := E6
    rw [chr8_lo8 hr.1 (k2 i hi).2] at g6
    exact ⟨T6, some (.int (f i)), _, _, _, X6, rfl, rfl, rfl, (fun h => by cases h), ⟨rfl, q6.trans hh4⟩, fun fs hl => Steps.trans g6 (X6.ireturnOut hexec hret (narrow_ch hr.1 hr.2) (Or.inr (Or.inr (Or.inr (Or.inl rfl)))) (hb hbytes d15) hl)⟩
  · exact absurd k0 (by decide)
theorem pays {l : Launch} {R : Room} {p : Program} {e : Env} {below : List Frame} {s : State} {sargs : Array Value} {len W : Nat} (x t : Addr) (V : Cell) (n : Nat) (f : Nat → Int32) (z : Int32) (fm : Value) (i : Nat) (htab : tab.before sargs s = true) (hfr : 4 ≤ R.frames) (hlo : W + 53 ≤ R.locals) :
    Back l R p e below s sargs yN len W (fun A₁ a₁ => A₁.cells + 0 ≤ R.cells ∧ A₁.slots + 0 ≤ R.slots ∧ P x t V n f z fm i a₁ A₁.U) (fun A₁ _ v₁ B₁ => E f i v₁ A₁.U B₁.U ∧ B₁.locs = A₁.locs ++ [] ∧ B₁.cells = A₁.cells + 0 ∧ B₁.slots = A₁.slots + 0) :=
  (law l x t V n f z fm i).pays htab hfr (by omega)
end ChN
end StrChars
namespace StrChars.Road
open Jvm Sem ClassFile Op Lib Jvm.Stand Jvm.Free Jvm.Free.XT
open Jvm.Lib.Cold (StaticIs)
/-- the words of String.charAt(int), the Latin-1 road alone -/
abbrev wordsChN : List Jvm.Cond := [.code ChN.yN ChN.yB 2 (some .char), .initialized ST, .fieldLink ST 9 ST "value" "[B", .fieldLink ST 38 ST "COMPACT_STRINGS" "Z", .fieldLink ST 15 ST "coder" "B", .code IsL.yN IsL.yB 1 (some .boolean), .methodLink ST 492 IsL.yN, .declares IsL.yN, .selects ST IsL.yN IsL.yN, .instanceMethod IsL.yN,
  .methodLink ST 495 LChA.yN, .static LChA.yN, .code LChA.yN LChA.yB 2 (some .char), .initialized "java/lang/StringLatin1", .methodLink "java/lang/StringLatin1" 9 JO.Str_checkIndex.yN, .static JO.Str_checkIndex.yN, .code JO.Str_checkIndex.yN JO.Str_checkIndex.yB 2 none,
  .fieldLink ST 1053 "jdk/internal/util/Preconditions" "SIOOBE_FORMATTER" "Ljava/util/function/BiFunction;", .methodLink ST 1059 JC.PreCheck.yN, .static JC.PreCheck.yN, .code JC.PreCheck.yN JC.PreCheck.yB 3 (some .int), .initialized "jdk/internal/util/Preconditions"]
theorem tabChN_of {a : Array Value} {s : State} (h : ∀ w ∈ wordsChN, w.before a s = true) : ChN.tab.before a s = true := by
  have hp : JC.PreCheck.tab.before a s = true := unparts (wk h (.code JC.PreCheck.yN JC.PreCheck.yB 3 (some .int))) (wks h (.initialized JC.PreCheck.yN.cls :: JC.PreCheck.site))
  have qk := consq hp h
  have hk : JO.Str_checkIndex.tab.before a s = true := unparts (wk qk (.code JO.Str_checkIndex.yN JO.Str_checkIndex.yB 2 none)) (wks qk (.initialized JO.Str_checkIndex.yN.cls :: JO.Str_checkIndex.site))
  have ql := consq hk h
  have hl : LChA.tab.before a s = true := unparts (wk ql (.code LChA.yN LChA.yB 2 (some .char))) (wks ql (.initialized LChA.yN.cls :: LChA.site))
  have hi : IsL.tab.before a s = true := unparts (wk h (.code IsL.yN IsL.yB 1 (some .boolean))) (wks h (.initialized IsL.yN.cls :: IsL.site))
  have q := consq hi (consq hl h)
  exact unparts (wk q (.code ChN.yN ChN.yB 2 (some .char))) (wks q (.initialized ChN.yN.cls :: ChN.site))
theorem movedChN {Z s : State} {a0 args : Array Value} (hZ : Z.Warmed39 s.vm) (hw : ∀ d ∈ wordsChN, d.before a0 Z = true) : ∀ d ∈ wordsChN, d.before args s = true := fun d hd => by
  have t : ∀ d ∈ wordsChN, (d.onTables && d.keepsFace) = true := by decide +kernel
  exact RoadKit.mv hZ (hw d hd) (t d hd)
/-- **charAt(i) OF A LATIN-1 STRING**, i < n: the char -/
theorem chN {p : Program} {l : Launch} {e : Env} {R : Room} {s : State} {args : Array Value} {below : List Frame} {len W : Nat} {Z : State} {a0 : Array Value} {h : Heap} (hZ : Z.Warmed39 s.vm) (hw : ∀ d ∈ wordsChN, d.before a0 Z = true) {kI : Nat} (wi : (Jvm.Cond.instantiable ST kI).before a0 Z = true)
    {x t : Addr} {kb : ClassId} {cs : List Int32} {N2 z : Int32} {vs : List Value} {fm : Value} {i : Nat} {j : Int32} (E : RoadKit.Exa Z h x ST) (V : RoadKit.Fld Z h x ST "value" "[B" (.ref t)) (C : RoadKit.Fld Z h x ST "coder" "B" (.int 0)) (K : RoadKit.Arv Z h t kb .byte N2 vs (.int 0)) (hc : CodA cs 0 N2 vs) (hb : ∀ c ∈ cs, ¬ c < 0 ∧ ¬ (65535 : Int32) < c)
    (S : RoadKit.Sta Z h ST "COMPACT_STRINGS" "Z" (.int z)) (hz : ¬ z = 0) (F : RoadKit.Sta Z h "jdk/internal/util/Preconditions" "SIOOBE_FORMATTER" "Ljava/util/function/BiFunction;" fm) (rf : fm.isRef = true) (l2 : cs.length ≤ 4000) (hi : i < cs.length) (hj : j = Int32.ofNat i) (hfr : 4 ≤ R.frames) (hlo : W + 53 ≤ R.locals) :
    Back l R p e below s args (⟨"java/lang/String", "charAt", "(I)C"⟩ : MethodName) len W (fun P a => a = #[.ref x, .int j] ∧ P.U.heap = h ∧ P.cells + 0 ≤ R.cells ∧ P.slots + 0 ≤ R.slots)
      (fun P _ v B => ∃ L, (v = some (.int (cs.getD i 0)) ∧ L = [] ∧ B.U.heap = h) ∧ B.locs = P.locs ++ L ∧ B.cells = P.cells + 0 ∧ B.slots = P.slots + 0) := by
  subst hj
  intro m meth c P g ig mk a X hg hsize hdg hW hn hp'
  obtain ⟨rfl, rfl, r1, r2⟩ := hp'
  have al : Z.vm.Alike P.U.vm := hZ.alike.trans X.warmed.alike
  obtain ⟨A, hx⟩ := txt_of wi al E V C K hc hb l2
  obtain ⟨v, B, X', ⟨⟨hv, hh⟩, hl, hk, hs⟩, st⟩ := ChN.pays x t A cs.length (fun j => cs.getD j 0) z fm i (tabChN_of (movedChN hZ hw)) hfr hlo m meth c P g ig mk _ X hg hsize hdg hW hn ⟨r1, r2, rfl, hx, hi, sta_is al S, hz, sta_is al F, rf⟩
  exact ⟨v, B, X', ⟨[], ⟨hv, rfl, hh⟩, hl, hk, hs⟩, st⟩
/-- what backV says of its String, as the contracts of this text ask it: cs's low bytes, coder 0 -/
theorem codOf {cs : List Int32} {n : Nat} (hn : cs.length = n) (hb : ∀ c ∈ cs, ¬ 255 < c) : CodA cs 0 (Int32.ofNat n) ((cs.map lo8).map Value.int) := Or.inl ⟨rfl, by rw [hn], by simp [List.map_map, Function.comp_def], hb⟩
end StrChars.Road
end Jvm.Pilot.@@N@@

namespace Jvm.Pilot.@@N@@
open Jvm Jvm.ClassFile Sem Op Lib Jvm.Free Jvm.Stand Jvm.LawKit Jvm.RoadKit Bundle Jvm.Pilot.@@N@@.Jvm.D
/-! from here the body runs to its end, and leaves what Q says -/
def Goes (p : Program) (e : Env) (below : List Frame) (Q : Outcome → State → Prop) (st : State) : Prop :=
  ∃ s₂ o, Steps p.tables e below st s₂ ∧ s₂.status = .running ∧ Ended s₂ below o ∧ Q o s₂
theorem Goes.go {p : Program} {e : Env} {below : List Frame} {Q : Outcome → State → Prop} {st st' : State} (h : ∀ t, Steps p.tables e below st' t → Steps p.tables e below st t) (k : Goes p e below Q st') : Goes p e below Q st := by
  obtain ⟨s₂, o, h1, h2⟩ := k
  exact ⟨s₂, o, h _ h1, h2⟩
theorem Goes.via {p : Program} {e : Env} {below : List Frame} {Q : Outcome → State → Prop} {st st' : State} (h : Steps p.tables e below st st') (k : Goes p e below Q st') : Goes p e below Q st :=
  Goes.go (fun _ q => h.trans q) k
theorem Goes.out {p : Program} {l : Launch} {e : Env} {R : Room} {s : State} {m : MethodId} {args : Array Value} {below : List Frame} {meth : Method} {c : Code} {T : State} {locs : List Loc} {cells slots : Nat}
    (X : Stand p l e R s m args below meth c T locs cells slots) {v : Option Value} {g : JFrame} (hv : meth.sig.returnType = none → v = none) (hlocks : meth.locks = false)
    (hst : ∀ fs : List Frame, (∀ (f : JFrame) (acts : List Action), f.method = m → f.locked = none → f.entered = [] → (doReturn e (T.setTop f) acts v).1 = T.setFrames fs) → Steps p.tables e below (T.setTop g) (T.setFrames fs))
    {Qn : Option Value → Heap → List Loc → Prop} {C S : Nat} (hq : Qn v T.heap locs) (hC : cells ≤ C) (hS : slots ≤ S) :
    Goes p e below (fun o U' => ∃ v L, o = .returned v ∧ Qn v U'.heap L ∧ FrameEnd s o U' L C S) (T.setTop g) := by
  obtain ⟨fs, hr, hrun, hended, hW, hsame⟩ := X.leave (v := v) hv hlocks
  exact ⟨_, _, hst fs hr, hrun, hended, _, _, rfl, hq, ⟨_, rfl⟩, hW, hsame.mono hC hS⟩
theorem own_h {Z : State} {a0 : Array Value} (hw : ∀ d ∈ tables_1, d.before a0 Z = true) {d : Jvm.Cond} (i : Nat) (h : tables_1[i]? = some d) : d.before a0 Z = true := hw _ (List.mem_of_getElem? h)
abbrev oR (f c s l : Nat) : Room := { frames := f, cells := c, slots := s, locals := l }
abbrev oNT : String := "com/example/thames/thames/engine/NodeTest"
abbrev oEQ : String := "com/example/thames/thames/model/ElementQuery"
abbrev oQN : String := "com/example/thames/thames/model/ExpandedQName"
abbrev oNK : String := "com/example/thames/thames/model/NodeKind"
abbrev oXC : String := "com/example/thames/thames/model/XmlCharacters"
/-! what is known of a String, and of the statics -/
def own_s (Z : State) (h : Heap) (x : Addr) (cs : List Int32) : Prop :=
  Exa Z h x "java/lang/String" ∧ Fld Z h x "java/lang/String" "coder" "B" (.int (0 : Int32)) ∧ (∃ (t : Addr) (kb : ClassId), Fld Z h x "java/lang/String" "value" "[B" (.ref t) ∧ Arv Z h t kb .byte (Int32.ofNat cs.length) ((cs.map StrChars.lo8).map Value.int) (.int 0)) ∧ (∀ c ∈ cs, ¬ c < 0 ∧ ¬ (255 : Int32) < c) ∧ cs.length ≤ 4000
theorem own_s.ext {Z : State} {h h' : Heap} {x : Addr} {cs : List Int32} (E : Ext h h') (S : own_s Z h x cs) : own_s Z h' x cs := by
  obtain ⟨a, b, ⟨t, kb, c, d⟩, e, f⟩ := S
  exact ⟨a.ext E, b.ext E, ⟨t, kb, c.ext E, d.ext E⟩, e, f⟩
abbrev own_st (c : Int32) : Prop := (65 ≤ c.toInt ∧ c.toInt ≤ 90) ∨ (97 ≤ c.toInt ∧ c.toInt ≤ 122) ∨ c.toInt = 95
abbrev own_nm (c : Int32) : Prop := own_st c ∨ (48 ≤ c.toInt ∧ c.toInt ≤ 57) ∨ c.toInt = 45
def own_env (Z : State) (h : Heap) (z : Int32) (fm : Value) (wS wN : Addr) (cS cN : Cell) : Prop :=
  Sta Z h "java/lang/String" "COMPACT_STRINGS" "Z" (.int z) ∧ ¬ z = 0 ∧ Sta Z h "jdk/internal/util/Preconditions" "SIOOBE_FORMATTER" "Ljava/util/function/BiFunction;" fm ∧ fm.isRef = true ∧
  Sta Z h oXC "ASCII_NAME_START_CHARS" "[Z" (.ref wS) ∧ Arr Z h wS cS .boolean ∧ cS.slots.size = 128 ∧ (∀ c : Int32, own_st c → cS.slots[c.toNatClampNeg]? = some (.int 1)) ∧
  Sta Z h oXC "ASCII_NAME_CHARS" "[Z" (.ref wN) ∧ Arr Z h wN cN .boolean ∧ cN.slots.size = 128 ∧ (∀ c : Int32, own_nm c → cN.slots[c.toNatClampNeg]? = some (.int 1))
theorem own_env.ext {Z : State} {h h' : Heap} {z : Int32} {fm : Value} {wS wN : Addr} {cS cN : Cell} (E : Ext h h') (V : own_env Z h z fm wS wN cS cN) : own_env Z h' z fm wS wN cS cN := by
  obtain ⟨a, b, c, d, e, f, g, i, j, k, l, m⟩ := V
  exact ⟨a.ext E, b, c.ext E, d, e.ext E, f.ext E, g, i, j.ext E, k.ext E, l, m⟩
theorem own_up {cs : List Int32} (h : ∀ c ∈ cs, ¬ c < 0 ∧ ¬ (255 : Int32) < c) : ∀ c ∈ cs, ¬ c < 0 ∧ ¬ (65535 : Int32) < c := fun c hc => ⟨(h c hc).1, fun q => (h c hc).2 (by rw [Int32.lt_iff_toInt_lt] at q ⊢; have e1 : (65535 : Int32).toInt = 65535 := rfl; have e2 : (255 : Int32).toInt = 255 := rfl; omega)⟩
theorem own_cod {cs : List Int32} (h : ∀ c ∈ cs, ¬ c < 0 ∧ ¬ (255 : Int32) < c) : StrChars.Road.CodA cs 0 (Int32.ofNat cs.length) ((cs.map StrChars.lo8).map Value.int) := StrChars.Road.codOf rfl fun c hc => (h c hc).2
theorem own_lo255 {c : Int32} (h : ¬ c < 0 ∧ ¬ (255 : Int32) < c) : StrChars.lo8 c &&& (255 : Int32) = c := by
  have t : ∀ k : Fin 256, StrChars.lo8 (Int32.ofNat k.val) &&& (255 : Int32) = Int32.ofNat k.val := by decide +kernel
  obtain ⟨h1, h2⟩ := h
  rw [Int32.lt_iff_toInt_lt] at h1 h2
  have e0 : (0 : Int32).toInt = 0 := rfl
  have e1 : (255 : Int32).toInt = 255 := rfl
  have e : Int32.ofNat c.toInt.toNat = c := by
    apply Int32.toInt_inj.mp
    rw [Int32.toInt_ofNat_small (by omega)]; omega
  have := t ⟨c.toInt.toNat, by omega⟩
  rw [e] at this; exact this
theorem own_getlo {cs : List Int32} {i : Nat} (hi : i < cs.length) : ((cs.map StrChars.lo8).map Value.int).getD i (.int 0) = .int (StrChars.lo8 (cs.getD i 0)) := by
  simp [List.getD_eq_getElem?_getD, hi]
theorem own_mem {cs : List Int32} {i : Nat} (hi : i < cs.length) : cs.getD i 0 ∈ cs := by
  simp [List.getD_eq_getElem?_getD, hi]
theorem own_small {c k : Int32} (h : ¬ c < 0 ∧ ¬ (255 : Int32) < c) (hk : 255 < k.toInt) : c < k := by
  obtain ⟨h1, h2⟩ := h
  rw [Int32.lt_iff_toInt_lt] at h1 h2 ⊢
  have e1 : (255 : Int32).toInt = 255 := rfl
  omega
theorem own_st.bd {c : Int32} (h : own_st c) : ¬ c < 0 ∧ c < (128 : Int32) := by
  unfold own_st at h; simp only [Int32.lt_iff_toInt_lt, Int32.reduceToInt]; omega
theorem own_nm.bd {c : Int32} (h : own_nm c) : ¬ c < 0 ∧ c < (128 : Int32) := by
  unfold own_nm own_st at h; simp only [Int32.lt_iff_toInt_lt, Int32.reduceToInt]; omega
theorem own_in {j : Int32} {n : Nat} (h1 : ¬ j < 0) (h2 : j.toInt < (n : Int)) : ¬ (j < 0 ∨ n ≤ j.toNatClampNeg) := by
  simp only [Int32.lt_iff_toInt_lt, Int32.toNatClampNeg, Int32.reduceToInt] at h1 ⊢; omega
theorem own_lt128 {j : Int32} (h : j < (128 : Int32)) : j.toInt < ((128 : Nat) : Int) := by
  rw [Int32.lt_iff_toInt_lt] at h; exact h
/-- XML's characters, and none above 255 -/
def own_px (n : Int) : Prop := n = 9 ∨ n = 10 ∨ n = 13 ∨ (32 ≤ n ∧ n ≤ 55295) ∨ (57344 ≤ n ∧ n ≤ 65533) ∨ (65536 ≤ n ∧ n ≤ 1114111)
abbrev own_ch (c : Int32) : Prop := 32 ≤ c.toInt ∧ c.toInt ≤ 255
theorem own_ch.bd {c : Int32} (h : own_ch c) : ¬ c < 0 ∧ ¬ (255 : Int32) < c := by
  unfold own_ch at h; simp only [Int32.lt_iff_toInt_lt, Int32.reduceToInt]; omega
theorem own_st.ch {c : Int32} (h : own_st c) : own_ch c := by unfold own_st at h; unfold own_ch; omega
theorem own_nm.ch {c : Int32} (h : own_nm c) : own_ch c := by unfold own_nm own_st at h; unfold own_ch; omega
/-- a name: one start character, or two signs -/
def own_name (cs : List Int32) : Prop := (∃ c0, cs = [c0] ∧ own_st c0) ∨ ∃ c0 c1, cs = [c0, c1] ∧ own_st c0 ∧ own_nm c1
/-- what the law hands in as a namespace: at most two signs of XML -/
def own_uri (cs : List Int32) : Prop := cs = [] ∨ (∃ c0, cs = [c0] ∧ own_ch c0) ∨ ∃ c0 c1, cs = [c0, c1] ∧ own_ch c0 ∧ own_ch c1

theorem own_wLen : ∀ d ∈ StrChars.Road.wordsLen, d ∈ tables_1 := by decide +kernel
theorem own_wCh : ∀ d ∈ StrChars.Road.wordsChN, d ∈ tables_1 := by decide +kernel
theorem own_wEmp : ∀ d ∈ StrChars.Road.wordsEmp, d ∈ tables_1 := by decide +kernel
theorem own_wNew : ∀ d ∈ StrChars.Road.words, d ∈ tables_1 := by decide +kernel
theorem dL1_0 : decode jdk_42_method_154_code 0 = .ok (.getstatic 38, 3) := by decide +kernel
theorem dL1_3 : decode jdk_42_method_154_code 3 = .ok (.ifCond .eq 14, 3) := by decide +kernel
theorem dL1_6 : decode jdk_42_method_154_code 6 = .ok (.aload_n 0, 1) := by decide +kernel
theorem dL1_7 : decode jdk_42_method_154_code 7 = .ok (.getfield 15, 3) := by decide +kernel
theorem dL1_10 : decode jdk_42_method_154_code 10 = .ok (.ifCond .ne 7, 3) := by decide +kernel
theorem dL1_13 : decode jdk_42_method_154_code 13 = .ok (.iconst 1, 1) := by decide +kernel
theorem dL1_14 : decode jdk_42_method_154_code 14 = .ok (.goto 4, 3) := by decide +kernel
theorem dL1_18 : decode jdk_42_method_154_code 18 = .ok (.ireturn, 1) := by decide +kernel
theorem pn_L1 : plainName "java/lang/String" = true := by first | (simp [plainName, overriddenIn]; done) | decide +kernel
theorem ef_L1 (m : MethodId) (o0 : Addr) : entryFrame m #[(.ref o0)] 1 = mkF m 0 #[.val (.ref o0)] [] := by first | (simp [entryFrame, mkF, argsToLocals, Value.category]; done) | rfl
def QL1 (Z : State) (o0 : Addr) (z : Int32) (h0 : Heap) (n0 : Nat) (v : Option Value) (h : Heap) (L : List Loc) : Prop := v = some (.int 1) ∧ Fr n0 L ∧ h = h0
set_option maxRecDepth 65536 in
set_option maxHeartbeats 40000000 in
theorem rmL1 (l : Launch) (Z : State) (a0 : Array Value) (hw : ∀ d ∈ tables_1, d.before a0 Z = true) (ws : List Jvm.Cond) (o0 : Addr) (z : Int32) (h0 : Heap) (n0 : Nat) (Z0 : n0 ≤ h0.size) (F_c : Fld Z h0 o0 "java/lang/String" "coder" "B" (.int (0 : Int32))) (S_z : Sta Z h0 "java/lang/String" "COMPACT_STRINGS" "Z" (.int z)) (hz : ¬ z = 0) :
    MetFree l (⟨"java/lang/String", "isLatin1", "()Z"⟩ : MethodName) (head1 (Jvm.Cond.code (⟨"java/lang/String", "isLatin1", "()Z"⟩ : MethodName) jdk_42_method_154_code 1 (some .boolean) :: ws) (oR 0 0 0 0)) (fun a U => a = #[(.ref o0)] ∧ Z.Warmed39 U.vm ∧ U.heap = h0) (fun _ _ _ _ _ => True) (fun _ U o U' => ∃ v L, o = .returned v ∧ QL1 Z o0 z h0 n0 v U'.heap L ∧ FrameEnd U o U' L (oR 0 0 0 0).cells (oR 0 0 0 0).slots) := by
  refine MetFree.of_bodySF (plainFor_of_name pn_L1) hisR ?_
  intro p e s m args below meth c s₁ Bd hml0 hP hK
  obtain ⟨rfl, hZ, hh⟩ := hP
  have hx := Bd.exec
  have hby := Bd.bytes
  have hml : c.maxLocals = 1 := hml0
  have hown : s.vm.findClass "java/lang/String" = some m.cls := findClass_of_methodNamed Bd.named
  have hnm := (name_of_methodNamed Bd.named Bd.method).1
  have X0 : Stand p l e (oR 0 0 0 0) s m #[(.ref o0)] below meth c s₁ [] 0 0 := Stand.of_body Bd
  have e0 : s₁.heap = h0 := by rw [← hh, Bd.state]; rfl
  have N0 := Fr.nil n0
  show Goes p e below (fun o U' => ∃ v L, o = .returned v ∧ QL1 Z o0 z h0 n0 v U'.heap L ∧ FrameEnd s o U' L (oR 0 0 0 0).cells (oR 0 0 0 0).slots) _
  refine Goes.go (fun t k => castTop (ef_L1 m o0) k) ?_
  show Goes p e below _ (s₁.setTop (mkF m 0 #[.val (.ref o0)] []))
  obtain ⟨T1, X1, e1, st1⟩ := getS2 X0 hx hZ hown (host := "") (Or.inl (own_h hw 25 rfl)) Via.refl e0 S_z (g := (mkF m 0 #[.val (.ref o0)] [])) rfl (hb hby dL1_0)
  refine Goes.go st1 ?_
  show Goes p e below _ (T1.setTop (mkF m 3 #[.val (.ref o0)] [(.int z)]))
  refine Goes.go (fun t => XS.ifNo X1.here hx rfl (hb hby dL1_3) rfl (Jvm.Free.XT.i0_eq_f hz)) ?_
  show Goes p e below _ (T1.setTop (mkF m 6 #[.val (.ref o0)] []))
  refine Goes.go (fun t => XS.aloadN X1.here hx rfl (hb hby dL1_6) rfl rfl ) ?_
  show Goes p e below _ (T1.setTop (mkF m 7 #[.val (.ref o0)] [(.ref o0)]))
  obtain ⟨T2, X2, e2, st2⟩ := getF X1 hx hZ hown (host := "") (Or.inl (own_h hw 37 rfl)) Via.refl e1 F_c (g := (mkF m 7 #[.val (.ref o0)] [(.ref o0)])) rfl rfl (hb hby dL1_7)
  refine Goes.go st2 ?_
  show Goes p e below _ (T2.setTop (mkF m 10 #[.val (.ref o0)] [(.int (0 : Int32))]))
  refine Goes.go (fun t => XS.ifNo X2.here hx rfl (hb hby dL1_10) rfl (Jvm.Free.XT.i0_ne_f (by decide))) ?_
  show Goes p e below _ (T2.setTop (mkF m 13 #[.val (.ref o0)] []))
  refine Goes.go (fun t => XS.iconst X2.here hx rfl (hb hby dL1_13)) ?_
  refine Goes.go (fun t => XS.goto X2.here hx rfl (pc0 := 14) (pc' := 18) rfl (hb hby dL1_14) (by decide) (by decide)) ?_
  show Goes p e below _ (T2.setTop (mkF m 18 #[.val (.ref o0)] [(.int (1 : Int32))]))
  exact Goes.out X2 (fun h => by rw [Bd.returns] at h; cases h) Bd.notSynchronized (fun fs hr => retN X2 hx (t := .boolean) Bd.returns (by simp) (hb hby dL1_18) hr) ⟨rfl, N0, e2⟩ (by decide) (by decide)
theorem dPN_0 : decode jdk_41_method_11_code 0 = .ok (.iload_n 0, 1) := by decide +kernel
theorem dPN_1 : decode jdk_41_method_11_code 1 = .ok (.ifCond .lt 8, 3) := by decide +kernel
theorem dPN_4 : decode jdk_41_method_11_code 4 = .ok (.iload_n 0, 1) := by decide +kernel
theorem dPN_5 : decode jdk_41_method_11_code 5 = .ok (.iload_n 1, 1) := by decide +kernel
theorem dPN_6 : decode jdk_41_method_11_code 6 = .ok (.if_icmp .lt 10, 3) := by decide +kernel
theorem dPN_16 : decode jdk_41_method_11_code 16 = .ok (.iload_n 0, 1) := by decide +kernel
theorem dPN_17 : decode jdk_41_method_11_code 17 = .ok (.ireturn, 1) := by decide +kernel
theorem pn_PN : plainName "jdk/internal/util/Preconditions" = true := by first | (simp [plainName, overriddenIn]; done) | decide +kernel
theorem ef_PN (m : MethodId) (p0 : Int32) (p1 : Int32) : entryFrame m #[(.int p0), (.int p1), .null] 3 = mkF m 0 #[.val (.int p0), .val (.int p1), .val .null] [] := by first | (simp [entryFrame, mkF, argsToLocals, Value.category]; done) | rfl
def QPN (Z : State) (p0 : Int32) (p1 : Int32) (h0 : Heap) (n0 : Nat) (v : Option Value) (h : Heap) (L : List Loc) : Prop := v = some (.int p0) ∧ Fr n0 L ∧ h = h0
set_option maxRecDepth 65536 in
set_option maxHeartbeats 40000000 in
theorem rmPN (l : Launch) (Z : State) (a0 : Array Value) (hw : ∀ d ∈ tables_1, d.before a0 Z = true) (ws : List Jvm.Cond) (p0 : Int32) (p1 : Int32) (h0 : Heap) (n0 : Nat) (Z0 : n0 ≤ h0.size) (h1 : ¬ p0 < 0) (h2 : p0 < p1) :
    MetFree l (⟨"jdk/internal/util/Preconditions", "checkIndex", "(IILjava/util/function/BiFunction;)I"⟩ : MethodName) (head1 (Jvm.Cond.code (⟨"jdk/internal/util/Preconditions", "checkIndex", "(IILjava/util/function/BiFunction;)I"⟩ : MethodName) jdk_41_method_11_code 3 (some .int) :: ws) (oR 0 0 0 0)) (fun a U => a = #[(.int p0), (.int p1), .null] ∧ Z.Warmed39 U.vm ∧ U.heap = h0) (fun _ _ _ _ _ => True) (fun _ U o U' => ∃ v L, o = .returned v ∧ QPN Z p0 p1 h0 n0 v U'.heap L ∧ FrameEnd U o U' L (oR 0 0 0 0).cells (oR 0 0 0 0).slots) := by
  refine MetFree.of_bodySF (plainFor_of_name pn_PN) hisR ?_
  intro p e s m args below meth c s₁ Bd hml0 hP hK
  obtain ⟨rfl, hZ, hh⟩ := hP
  have hx := Bd.exec
  have hby := Bd.bytes
  have hml : c.maxLocals = 3 := hml0
  have hown : s.vm.findClass "jdk/internal/util/Preconditions" = some m.cls := findClass_of_methodNamed Bd.named
  have hnm := (name_of_methodNamed Bd.named Bd.method).1
  have X0 : Stand p l e (oR 0 0 0 0) s m #[(.int p0), (.int p1), .null] below meth c s₁ [] 0 0 := Stand.of_body Bd
  have e0 : s₁.heap = h0 := by rw [← hh, Bd.state]; rfl
  have N0 := Fr.nil n0
  show Goes p e below (fun o U' => ∃ v L, o = .returned v ∧ QPN Z p0 p1 h0 n0 v U'.heap L ∧ FrameEnd s o U' L (oR 0 0 0 0).cells (oR 0 0 0 0).slots) _
  refine Goes.go (fun t k => castTop (ef_PN m p0 p1) k) ?_
  show Goes p e below _ (s₁.setTop (mkF m 0 #[.val (.int p0), .val (.int p1), .val .null] []))
  refine Goes.go (fun t => XS.iloadN X0.here hx rfl (hb hby dPN_0) rfl ) ?_
  show Goes p e below _ (s₁.setTop (mkF m 1 #[.val (.int p0), .val (.int p1), .val .null] [(.int p0)]))
  refine Goes.go (fun t => XS.ifNo X0.here hx rfl (hb hby dPN_1) rfl (Jvm.Free.XT.i0_lt_f h1)) ?_
  show Goes p e below _ (s₁.setTop (mkF m 4 #[.val (.int p0), .val (.int p1), .val .null] []))
  refine Goes.go (fun t => XS.iloadN X0.here hx rfl (hb hby dPN_4) rfl ) ?_
  refine Goes.go (fun t => XS.iloadN X0.here hx rfl (hb hby dPN_5) rfl ) ?_
  show Goes p e below _ (s₁.setTop (mkF m 6 #[.val (.int p0), .val (.int p1), .val .null] [(.int p1), (.int p0)]))
  refine Goes.go (fun t => XS.icmpYes X0.here hx rfl (pc0 := 6) (pc' := 16) rfl (hb hby dPN_6) rfl (Jvm.Free.XT.ii_lt_t h2) (by decide) (by decide)) ?_
  show Goes p e below _ (s₁.setTop (mkF m 16 #[.val (.int p0), .val (.int p1), .val .null] []))
  refine Goes.go (fun t => XS.iloadN X0.here hx rfl (hb hby dPN_16) rfl ) ?_
  show Goes p e below _ (s₁.setTop (mkF m 17 #[.val (.int p0), .val (.int p1), .val .null] [(.int p0)]))
  exact Goes.out X0 (fun h => by rw [Bd.returns] at h; cases h) Bd.notSynchronized (fun fs hr => retI X0 hx Bd.returns (hb hby dPN_17) hr) ⟨rfl, N0, e0⟩ (by decide) (by decide)
theorem dPR_0 : decode jdk_41_method_11_code 0 = .ok (.iload_n 0, 1) := by decide +kernel
theorem dPR_1 : decode jdk_41_method_11_code 1 = .ok (.ifCond .lt 8, 3) := by decide +kernel
theorem dPR_4 : decode jdk_41_method_11_code 4 = .ok (.iload_n 0, 1) := by decide +kernel
theorem dPR_5 : decode jdk_41_method_11_code 5 = .ok (.iload_n 1, 1) := by decide +kernel
theorem dPR_6 : decode jdk_41_method_11_code 6 = .ok (.if_icmp .lt 10, 3) := by decide +kernel
theorem dPR_16 : decode jdk_41_method_11_code 16 = .ok (.iload_n 0, 1) := by decide +kernel
theorem dPR_17 : decode jdk_41_method_11_code 17 = .ok (.ireturn, 1) := by decide +kernel
theorem pn_PR : plainName "jdk/internal/util/Preconditions" = true := by first | (simp [plainName, overriddenIn]; done) | decide +kernel
theorem ef_PR (m : MethodId) (p0 : Int32) (p1 : Int32) (o2 : Addr) : entryFrame m #[(.int p0), (.int p1), (.ref o2)] 3 = mkF m 0 #[.val (.int p0), .val (.int p1), .val (.ref o2)] [] := by first | (simp [entryFrame, mkF, argsToLocals, Value.category]; done) | rfl
def QPR (Z : State) (p0 : Int32) (p1 : Int32) (o2 : Addr) (h0 : Heap) (n0 : Nat) (v : Option Value) (h : Heap) (L : List Loc) : Prop := v = some (.int p0) ∧ Fr n0 L ∧ h = h0
set_option maxRecDepth 65536 in
set_option maxHeartbeats 40000000 in
theorem rmPR (l : Launch) (Z : State) (a0 : Array Value) (hw : ∀ d ∈ tables_1, d.before a0 Z = true) (ws : List Jvm.Cond) (p0 : Int32) (p1 : Int32) (o2 : Addr) (h0 : Heap) (n0 : Nat) (Z0 : n0 ≤ h0.size) (h1 : ¬ p0 < 0) (h2 : p0 < p1) :
    MetFree l (⟨"jdk/internal/util/Preconditions", "checkIndex", "(IILjava/util/function/BiFunction;)I"⟩ : MethodName) (head1 (Jvm.Cond.code (⟨"jdk/internal/util/Preconditions", "checkIndex", "(IILjava/util/function/BiFunction;)I"⟩ : MethodName) jdk_41_method_11_code 3 (some .int) :: ws) (oR 0 0 0 0)) (fun a U => a = #[(.int p0), (.int p1), (.ref o2)] ∧ Z.Warmed39 U.vm ∧ U.heap = h0) (fun _ _ _ _ _ => True) (fun _ U o U' => ∃ v L, o = .returned v ∧ QPR Z p0 p1 o2 h0 n0 v U'.heap L ∧ FrameEnd U o U' L (oR 0 0 0 0).cells (oR 0 0 0 0).slots) := by
  refine MetFree.of_bodySF (plainFor_of_name pn_PR) hisR ?_
  intro p e s m args below meth c s₁ Bd hml0 hP hK
  obtain ⟨rfl, hZ, hh⟩ := hP
  have hx := Bd.exec
  have hby := Bd.bytes
  have hml : c.maxLocals = 3 := hml0
  have hown : s.vm.findClass "jdk/internal/util/Preconditions" = some m.cls := findClass_of_methodNamed Bd.named
  have hnm := (name_of_methodNamed Bd.named Bd.method).1
  have X0 : Stand p l e (oR 0 0 0 0) s m #[(.int p0), (.int p1), (.ref o2)] below meth c s₁ [] 0 0 := Stand.of_body Bd
  have e0 : s₁.heap = h0 := by rw [← hh, Bd.state]; rfl
  have N0 := Fr.nil n0
  show Goes p e below (fun o U' => ∃ v L, o = .returned v ∧ QPR Z p0 p1 o2 h0 n0 v U'.heap L ∧ FrameEnd s o U' L (oR 0 0 0 0).cells (oR 0 0 0 0).slots) _
  refine Goes.go (fun t k => castTop (ef_PR m p0 p1 o2) k) ?_
  show Goes p e below _ (s₁.setTop (mkF m 0 #[.val (.int p0), .val (.int p1), .val (.ref o2)] []))
  refine Goes.go (fun t => XS.iloadN X0.here hx rfl (hb hby dPR_0) rfl ) ?_
  show Goes p e below _ (s₁.setTop (mkF m 1 #[.val (.int p0), .val (.int p1), .val (.ref o2)] [(.int p0)]))
  refine Goes.go (fun t => XS.ifNo X0.here hx rfl (hb hby dPR_1) rfl (Jvm.Free.XT.i0_lt_f h1)) ?_
  show Goes p e below _ (s₁.setTop (mkF m 4 #[.val (.int p0), .val (.int p1), .val (.ref o2)] []))
  refine Goes.go (fun t => XS.iloadN X0.here hx rfl (hb hby dPR_4) rfl ) ?_
  refine Goes.go (fun t => XS.iloadN X0.here hx rfl (hb hby dPR_5) rfl ) ?_
  show Goes p e below _ (s₁.setTop (mkF m 6 #[.val (.int p0), .val (.int p1), .val (.ref o2)] [(.int p1), (.int p0)]))
  refine Goes.go (fun t => XS.icmpYes X0.here hx rfl (pc0 := 6) (pc' := 16) rfl (hb hby dPR_6) rfl (Jvm.Free.XT.ii_lt_t h2) (by decide) (by decide)) ?_
  show Goes p e below _ (s₁.setTop (mkF m 16 #[.val (.int p0), .val (.int p1), .val (.ref o2)] []))
  refine Goes.go (fun t => XS.iloadN X0.here hx rfl (hb hby dPR_16) rfl ) ?_
  show Goes p e below _ (s₁.setTop (mkF m 17 #[.val (.int p0), .val (.int p1), .val (.ref o2)] [(.int p0)]))
  exact Goes.out X0 (fun h => by rw [Bd.returns] at h; cases h) Bd.notSynchronized (fun fs hr => retI X0 hx Bd.returns (hb hby dPR_17) hr) ⟨rfl, N0, e0⟩ (by decide) (by decide)
theorem dCI_0 : decode jdk_42_method_155_code 0 = .ok (.iload_n 0, 1) := by decide +kernel
theorem dCI_1 : decode jdk_42_method_155_code 1 = .ok (.iload_n 1, 1) := by decide +kernel
theorem dCI_2 : decode jdk_42_method_155_code 2 = .ok (.getstatic 1053, 3) := by decide +kernel
theorem dCI_5 : decode jdk_42_method_155_code 5 = .ok (.invokestatic 1059, 3) := by decide +kernel
theorem dCI_8 : decode jdk_42_method_155_code 8 = .ok (.pop, 1) := by decide +kernel
theorem dCI_9 : decode jdk_42_method_155_code 9 = .ok (.return_, 1) := by decide +kernel
theorem pn_CI : plainName "java/lang/String" = true := by first | (simp [plainName, overriddenIn]; done) | decide +kernel
theorem pdCI_0 : parseMethodDescriptor "(IILjava/util/function/BiFunction;)I" = some ⟨[.int, .int, (.object "java/util/function/BiFunction")], some .int⟩ := by decide +kernel
theorem ef_CI (m : MethodId) (p0 : Int32) (p1 : Int32) : entryFrame m #[(.int p0), (.int p1)] 2 = mkF m 0 #[.val (.int p0), .val (.int p1)] [] := by first | (simp [entryFrame, mkF, argsToLocals, Value.category]; done) | rfl
def QCI (Z : State) (p0 : Int32) (p1 : Int32) (fm : Value) (h0 : Heap) (n0 : Nat) (v : Option Value) (h : Heap) (L : List Loc) : Prop := v = none ∧ Fr n0 L ∧ h = h0
set_option maxRecDepth 65536 in
set_option maxHeartbeats 40000000 in
theorem rmCI (l : Launch) (Z : State) (a0 : Array Value) (hw : ∀ d ∈ tables_1, d.before a0 Z = true) (ws : List Jvm.Cond) (p0 : Int32) (p1 : Int32) (fm : Value) (h0 : Heap) (n0 : Nat) (Z0 : n0 ≤ h0.size) (S_f : Sta Z h0 "jdk/internal/util/Preconditions" "SIOOBE_FORMATTER" "Ljava/util/function/BiFunction;" fm) (rf : fm.isRef = true) (h1 : ¬ p0 < 0) (h2 : p0 < p1) :
    MetFree l (⟨"java/lang/String", "checkIndex", "(II)V"⟩ : MethodName) (head1 (Jvm.Cond.code (⟨"java/lang/String", "checkIndex", "(II)V"⟩ : MethodName) jdk_42_method_155_code 2 none :: ws) (oR 1 0 0 14)) (fun a U => a = #[(.int p0), (.int p1)] ∧ Z.Warmed39 U.vm ∧ U.heap = h0) (fun _ _ _ _ _ => True) (fun _ U o U' => ∃ v L, o = .returned v ∧ QCI Z p0 p1 fm h0 n0 v U'.heap L ∧ FrameEnd U o U' L (oR 1 0 0 14).cells (oR 1 0 0 14).slots) := by
  refine MetFree.of_bodySF (plainFor_of_name pn_CI) hisR ?_
  intro p e s m args below meth c s₁ Bd hml0 hP hK
  obtain ⟨rfl, hZ, hh⟩ := hP
  have hx := Bd.exec
  have hby := Bd.bytes
  have hml : c.maxLocals = 2 := hml0
  have hown : s.vm.findClass "java/lang/String" = some m.cls := findClass_of_methodNamed Bd.named
  have hnm := (name_of_methodNamed Bd.named Bd.method).1
  have X0 : Stand p l e (oR 1 0 0 14) s m #[(.int p0), (.int p1)] below meth c s₁ [] 0 0 := Stand.of_body Bd
  have e0 : s₁.heap = h0 := by rw [← hh, Bd.state]; rfl
  have N0 := Fr.nil n0
  show Goes p e below (fun o U' => ∃ v L, o = .returned v ∧ QCI Z p0 p1 fm h0 n0 v U'.heap L ∧ FrameEnd s o U' L (oR 1 0 0 14).cells (oR 1 0 0 14).slots) _
  refine Goes.go (fun t k => castTop (ef_CI m p0 p1) k) ?_
  rcases ref_cases rf with rfl | ⟨fa, rfl⟩
  · show Goes p e below _ (s₁.setTop (mkF m 0 #[.val (.int p0), .val (.int p1)] []))
    refine Goes.go (fun t => XS.iloadN X0.here hx rfl (hb hby dCI_0) rfl ) ?_
    refine Goes.go (fun t => XS.iloadN X0.here hx rfl (hb hby dCI_1) rfl ) ?_
    show Goes p e below _ (s₁.setTop (mkF m 2 #[.val (.int p0), .val (.int p1)] [(.int p1), (.int p0)]))
    obtain ⟨T1, X1, e1, st1⟩ := getS2 X0 hx hZ hown (host := "") (Or.inl (own_h hw 144 rfl)) Via.refl e0 S_f (g := (mkF m 2 #[.val (.int p0), .val (.int p1)] [(.int p1), (.int p0)])) rfl (hb hby dCI_2)
    refine Goes.go st1 ?_
    show Goes p e below _ (T1.setTop (mkF m 5 #[.val (.int p0), .val (.int p1)] [.null, (.int p1), (.int p0)]))
    obtain ⟨_, _, ⟨T2, L2, k2, n2⟩, -, X2, ⟨Lc2, hQ2, l2, y2, z2⟩, st2⟩ := Jvm.LawKit.callS X1 hx (y := (⟨"jdk/internal/util/Preconditions", "checkIndex", "(IILjava/util/function/BiFunction;)I"⟩ : MethodName)) hown (mvT hZ (own_h hw 146 rfl)) (mvT hZ (own_h hw 147 rfl)) (mvT hZ (own_h hw 145 rfl)) (mvT hZ (own_h hw 148 rfl)) (by decide) (backOf (W := 0) (rmPN l Z a0 hw [] p0 p1 h0 n0 Z0 h1 h2) hZ (own_h hw 148 rfl) (own_h hw 145 rfl) (by decide) (by decide)) (g := (mkF m 5 #[.val (.int p0), .val (.int p1)] [.null, (.int p1), (.int p0)])) rfl (by rw [hml]; rfl) (argsL := [(.int p0), (.int p1), .null]) (rest := []) (lenOf pdCI_0 rfl) rfl (by show 2 * 0 + _ ≤ _; exact Nat.le_of_eq rfl) (hb hby dCI_5) (fun _ _ => ⟨rfl, e1, (by decide : 0 + 0 ≤ _), (by decide : 0 + 0 ≤ _)⟩)
    dsimp only [Pt.U, Pt.locs, Pt.cells, Pt.slots] at X2 l2 y2 z2 st2 hQ2
    subst l2 y2 z2
    obtain ⟨rfl, N2q, e2q⟩ := hQ2
    have N2 := Fr.app N0 N2q
    refine Goes.go st2 ?_
    show Goes p e below _ (T2.setTop (mkF m 8 #[.val (.int p0), .val (.int p1)] [(.int p0)]))
    refine Goes.go (fun t => XS.pop X2.here hx rfl (hb hby dCI_8) rfl rfl) ?_
    show Goes p e below _ (T2.setTop (mkF m 9 #[.val (.int p0), .val (.int p1)] []))
    exact Goes.out X2 (fun _ => rfl) Bd.notSynchronized (fun fs hr => X2.returnOut hx Bd.returns (hb hby dCI_9) hr) ⟨rfl, N2, e2q⟩ (by decide) (by decide)
  · show Goes p e below _ (s₁.setTop (mkF m 0 #[.val (.int p0), .val (.int p1)] []))
    refine Goes.go (fun t => XS.iloadN X0.here hx rfl (hb hby dCI_0) rfl ) ?_
    refine Goes.go (fun t => XS.iloadN X0.here hx rfl (hb hby dCI_1) rfl ) ?_
    show Goes p e below _ (s₁.setTop (mkF m 2 #[.val (.int p0), .val (.int p1)] [(.int p1), (.int p0)]))
    obtain ⟨T3, X3, e3, st3⟩ := getS2 X0 hx hZ hown (host := "") (Or.inl (own_h hw 144 rfl)) Via.refl e0 S_f (g := (mkF m 2 #[.val (.int p0), .val (.int p1)] [(.int p1), (.int p0)])) rfl (hb hby dCI_2)
    refine Goes.go st3 ?_
    show Goes p e below _ (T3.setTop (mkF m 5 #[.val (.int p0), .val (.int p1)] [(.ref fa), (.int p1), (.int p0)]))
    obtain ⟨_, _, ⟨T4, L4, k4, n4⟩, -, X4, ⟨Lc4, hQ4, l4, y4, z4⟩, st4⟩ := Jvm.LawKit.callS X3 hx (y := (⟨"jdk/internal/util/Preconditions", "checkIndex", "(IILjava/util/function/BiFunction;)I"⟩ : MethodName)) hown (mvT hZ (own_h hw 146 rfl)) (mvT hZ (own_h hw 147 rfl)) (mvT hZ (own_h hw 145 rfl)) (mvT hZ (own_h hw 148 rfl)) (by decide) (backOf (W := 0) (rmPR l Z a0 hw [] p0 p1 fa h0 n0 Z0 h1 h2) hZ (own_h hw 148 rfl) (own_h hw 145 rfl) (by decide) (by decide)) (g := (mkF m 5 #[.val (.int p0), .val (.int p1)] [(.ref fa), (.int p1), (.int p0)])) rfl (by rw [hml]; rfl) (argsL := [(.int p0), (.int p1), (.ref fa)]) (rest := []) (lenOf pdCI_0 rfl) rfl (by show 2 * 0 + _ ≤ _; exact Nat.le_of_eq rfl) (hb hby dCI_5) (fun _ _ => ⟨rfl, e3, (by decide : 0 + 0 ≤ _), (by decide : 0 + 0 ≤ _)⟩)
    dsimp only [Pt.U, Pt.locs, Pt.cells, Pt.slots] at X4 l4 y4 z4 st4 hQ4
    subst l4 y4 z4
    obtain ⟨rfl, N4q, e4q⟩ := hQ4
    have N4 := Fr.app N0 N4q
    refine Goes.go st4 ?_
    show Goes p e below _ (T4.setTop (mkF m 8 #[.val (.int p0), .val (.int p1)] [(.int p0)]))
    refine Goes.go (fun t => XS.pop X4.here hx rfl (hb hby dCI_8) rfl rfl) ?_
    show Goes p e below _ (T4.setTop (mkF m 9 #[.val (.int p0), .val (.int p1)] []))
    exact Goes.out X4 (fun _ => rfl) Bd.notSynchronized (fun fs hr => X4.returnOut hx Bd.returns (hb hby dCI_9) hr) ⟨rfl, N4, e4q⟩ (by decide) (by decide)
theorem dCP_0 : decode jdk_42_method_57_code 0 = .ok (.aload_n 0, 1) := by decide +kernel
theorem dCP_1 : decode jdk_42_method_57_code 1 = .ok (.invokevirtual 492, 3) := by decide +kernel
theorem dCP_4 : decode jdk_42_method_57_code 4 = .ok (.ifCond .eq 23, 3) := by decide +kernel
theorem dCP_7 : decode jdk_42_method_57_code 7 = .ok (.iload_n 1, 1) := by decide +kernel
theorem dCP_8 : decode jdk_42_method_57_code 8 = .ok (.aload_n 0, 1) := by decide +kernel
theorem dCP_9 : decode jdk_42_method_57_code 9 = .ok (.getfield 9, 3) := by decide +kernel
theorem dCP_12 : decode jdk_42_method_57_code 12 = .ok (.arraylength, 1) := by decide +kernel
theorem dCP_13 : decode jdk_42_method_57_code 13 = .ok (.invokestatic 499, 3) := by decide +kernel
theorem dCP_16 : decode jdk_42_method_57_code 16 = .ok (.aload_n 0, 1) := by decide +kernel
theorem dCP_17 : decode jdk_42_method_57_code 17 = .ok (.getfield 9, 3) := by decide +kernel
theorem dCP_20 : decode jdk_42_method_57_code 20 = .ok (.iload_n 1, 1) := by decide +kernel
theorem dCP_21 : decode jdk_42_method_57_code 21 = .ok (.baload, 1) := by decide +kernel
theorem dCP_22 : decode jdk_42_method_57_code 22 = .ok (.sipush 255, 3) := by decide +kernel
theorem dCP_25 : decode jdk_42_method_57_code 25 = .ok (.iand, 1) := by decide +kernel
theorem dCP_26 : decode jdk_42_method_57_code 26 = .ok (.ireturn, 1) := by decide +kernel
theorem pn_CP : plainName "java/lang/String" = true := by first | (simp [plainName, overriddenIn]; done) | decide +kernel
theorem pdCP_0 : parseMethodDescriptor "()Z" = some ⟨[], some .boolean⟩ := by decide +kernel
theorem pdCP_1 : parseMethodDescriptor "(II)V" = some ⟨[.int, .int], none⟩ := by decide +kernel
theorem ef_CP (m : MethodId) (o0 : Addr) (p1 : Int32) : entryFrame m #[(.ref o0), (.int p1)] 3 = mkF m 0 #[.val (.ref o0), .val (.int p1), .unset] [] := by first | (simp [entryFrame, mkF, argsToLocals, Value.category]; done) | rfl
def QCP (Z : State) (o0 : Addr) (p1 : Int32) (z : Int32) (fm : Value) (cs : List Int32) (i : Nat) (h0 : Heap) (n0 : Nat) (v : Option Value) (h : Heap) (L : List Loc) : Prop := v = some (.int (cs.getD i 0)) ∧ Fr n0 L ∧ h = h0
set_option maxRecDepth 65536 in
set_option maxHeartbeats 40000000 in
theorem rmCP (l : Launch) (Z : State) (a0 : Array Value) (hw : ∀ d ∈ tables_1, d.before a0 Z = true) (ws : List Jvm.Cond) (o0 : Addr) (p1 : Int32) (z : Int32) (fm : Value) (cs : List Int32) (i : Nat) (h0 : Heap) (n0 : Nat) (Z0 : n0 ≤ h0.size) (S : own_s Z h0 o0 cs) (S_z : Sta Z h0 "java/lang/String" "COMPACT_STRINGS" "Z" (.int z)) (hz : ¬ z = 0) (S_f : Sta Z h0 "jdk/internal/util/Preconditions" "SIOOBE_FORMATTER" "Ljava/util/function/BiFunction;" fm) (rf : fm.isRef = true) (hi : i < cs.length) (hp1 : ¬ p1 < 0) (hp2 : p1 < Int32.ofNat cs.length) (hp3 : p1.toNatClampNeg = i) :
    MetFree l (⟨"java/lang/String", "codePointAt", "(I)I"⟩ : MethodName) (head1 (Jvm.Cond.code (⟨"java/lang/String", "codePointAt", "(I)I"⟩ : MethodName) jdk_42_method_57_code 3 (some .int) :: ws) (oR 2 0 0 27)) (fun a U => a = #[(.ref o0), (.int p1)] ∧ Z.Warmed39 U.vm ∧ U.heap = h0) (fun _ _ _ _ _ => True) (fun _ U o U' => ∃ v L, o = .returned v ∧ QCP Z o0 p1 z fm cs i h0 n0 v U'.heap L ∧ FrameEnd U o U' L (oR 2 0 0 27).cells (oR 2 0 0 27).slots) := by
  refine MetFree.of_bodySF (plainFor_of_name pn_CP) hisR ?_
  intro p e s m args below meth c s₁ Bd hml0 hP hK
  obtain ⟨rfl, hZ, hh⟩ := hP
  have hx := Bd.exec
  have hby := Bd.bytes
  have hml : c.maxLocals = 3 := hml0
  have hown : s.vm.findClass "java/lang/String" = some m.cls := findClass_of_methodNamed Bd.named
  have hnm := (name_of_methodNamed Bd.named Bd.method).1
  have X0 : Stand p l e (oR 2 0 0 27) s m #[(.ref o0), (.int p1)] below meth c s₁ [] 0 0 := Stand.of_body Bd
  have e0 : s₁.heap = h0 := by rw [← hh, Bd.state]; rfl
  have N0 := Fr.nil n0
  show Goes p e below (fun o U' => ∃ v L, o = .returned v ∧ QCP Z o0 p1 z fm cs i h0 n0 v U'.heap L ∧ FrameEnd s o U' L (oR 2 0 0 27).cells (oR 2 0 0 27).slots) _
  refine Goes.go (fun t k => castTop (ef_CP m o0 p1) k) ?_
  obtain ⟨E_s, F_c, ⟨t, kb, F_v, A_v⟩, hcs, hl⟩ := id S
  show Goes p e below _ (s₁.setTop (mkF m 0 #[.val (.ref o0), .val (.int p1), .unset] []))
  refine Goes.go (fun t => XS.aloadN X0.here hx rfl (hb hby dCP_0) rfl rfl ) ?_
  show Goes p e below _ (s₁.setTop (mkF m 1 #[.val (.ref o0), .val (.int p1), .unset] [(.ref o0)]))
  obtain ⟨cq1, kq1, q1a, q1b, q1c⟩ := isOf hZ e0 E_s
  obtain ⟨_, _, ⟨T1, L1, k1, n1⟩, -, X1, ⟨Lc1, hQ1, l1, y1, z1⟩, st1⟩ := X0.virtualBack hx (y := (⟨"java/lang/String", "isLatin1", "()Z"⟩ : MethodName)) (z := (⟨"java/lang/String", "isLatin1", "()Z"⟩ : MethodName)) hown (mvT hZ (own_h hw 132 rfl)) (mvT hZ (own_h hw 133 rfl)) (notFace_of_selects (args := #[]) (mvT hZ (own_h hw 135 rfl))) (mvT hZ (own_h hw 135 rfl)) (mvT hZ (own_h hw 134 rfl)) (by decide) (backOf (W := 0) (rmL1 l Z a0 hw [] o0 z h0 n0 Z0 F_c S_z hz) hZ (own_h hw 136 rfl) (own_h hw 14 rfl) (by decide) (by decide)) q1a q1c (g := (mkF m 1 #[.val (.ref o0), .val (.int p1), .unset] [(.ref o0)])) rfl (by rw [hml]; rfl) (Steps.refl _) (argsL := []) (rest := []) (lenOf pdCP_0 rfl) rfl (by show 2 * 0 + _ ≤ _; exact Nat.le_of_eq rfl) (hb hby dCP_1) (fun _ _ => ⟨rfl, e0, (by decide : 0 + 0 ≤ _), (by decide : 0 + 0 ≤ _)⟩)
  dsimp only [Pt.U, Pt.locs, Pt.cells, Pt.slots] at X1 l1 y1 z1 st1 hQ1
  subst l1 y1 z1
  obtain ⟨rfl, N1q, e1q⟩ := hQ1
  have N1 := Fr.app N0 N1q
  refine Goes.via st1 ?_
  show Goes p e below _ (T1.setTop (mkF m 4 #[.val (.ref o0), .val (.int p1), .unset] [(.int (1 : Int32))]))
  refine Goes.go (fun t => XS.ifNo X1.here hx rfl (hb hby dCP_4) rfl (Jvm.Free.XT.i0_eq_f (by decide))) ?_
  show Goes p e below _ (T1.setTop (mkF m 7 #[.val (.ref o0), .val (.int p1), .unset] []))
  refine Goes.go (fun t => XS.iloadN X1.here hx rfl (hb hby dCP_7) rfl ) ?_
  refine Goes.go (fun t => XS.aloadN X1.here hx rfl (hb hby dCP_8) rfl rfl ) ?_
  show Goes p e below _ (T1.setTop (mkF m 9 #[.val (.ref o0), .val (.int p1), .unset] [(.ref o0), (.int p1)]))
  obtain ⟨T2, X2, e2, st2⟩ := getF X1 hx hZ hown (host := "") (Or.inl (own_h hw 39 rfl)) Via.refl e1q F_v (g := (mkF m 9 #[.val (.ref o0), .val (.int p1), .unset] [(.ref o0), (.int p1)])) rfl rfl (hb hby dCP_9)
  refine Goes.go st2 ?_
  show Goes p e below _ (T2.setTop (mkF m 12 #[.val (.ref o0), .val (.int p1), .unset] [(.ref t), (.int p1)]))
  obtain ⟨cl, Ar, qk, Sz, Nn, Hh, Gg⟩ := id A_v
  refine Goes.go (X2.arraylength hx (by rw [e2]; exact Ar.1) (State.isArrayOf_alike hZ.alike Ar.2.1) (g := (mkF m 12 #[.val (.ref o0), .val (.int p1), .unset] [(.ref t), (.int p1)])) rfl rfl (hb hby dCP_12)) ?_
  rw [len_of Sz Nn]
  show Goes p e below _ (T2.setTop (mkF m 13 #[.val (.ref o0), .val (.int p1), .unset] [(.int (Int32.ofNat cs.length)), (.int p1)]))
  obtain ⟨_, _, ⟨T3, L3, k3, n3⟩, -, X3, ⟨Lc3, hQ3, l3, y3, z3⟩, st3⟩ := Jvm.LawKit.callS X2 hx (y := (⟨"java/lang/String", "checkIndex", "(II)V"⟩ : MethodName)) hown (mvT hZ (own_h hw 229 rfl)) (mvT hZ (own_h hw 142 rfl)) (mvT hZ (own_h hw 14 rfl)) (mvT hZ (own_h hw 143 rfl)) (by decide) (backOf (W := 0) (rmCI l Z a0 hw [] p1 (Int32.ofNat cs.length) fm h0 n0 Z0 S_f rf hp1 hp2) hZ (own_h hw 143 rfl) (own_h hw 14 rfl) (by decide) (by decide)) (g := (mkF m 13 #[.val (.ref o0), .val (.int p1), .unset] [(.int (Int32.ofNat cs.length)), (.int p1)])) rfl (by rw [hml]; rfl) (argsL := [(.int p1), (.int (Int32.ofNat cs.length))]) (rest := []) (lenOf pdCP_1 rfl) rfl (by show 2 * 0 + _ ≤ _; exact Nat.le_of_eq rfl) (hb hby dCP_13) (fun _ _ => ⟨rfl, e2, (by decide : 0 + 0 ≤ _), (by decide : 0 + 0 ≤ _)⟩)
  dsimp only [Pt.U, Pt.locs, Pt.cells, Pt.slots] at X3 l3 y3 z3 st3 hQ3
  subst l3 y3 z3
  obtain ⟨rfl, N3q, e3q⟩ := hQ3
  have N3 := Fr.app N1 N3q
  refine Goes.go st3 ?_
  show Goes p e below _ (T3.setTop (mkF m 16 #[.val (.ref o0), .val (.int p1), .unset] []))
  refine Goes.go (fun t => XS.aloadN X3.here hx rfl (hb hby dCP_16) rfl rfl ) ?_
  show Goes p e below _ (T3.setTop (mkF m 17 #[.val (.ref o0), .val (.int p1), .unset] [(.ref o0)]))
  obtain ⟨T4, X4, e4, st4⟩ := getF X3 hx hZ hown (host := "") (Or.inl (own_h hw 39 rfl)) Via.refl e3q F_v (g := (mkF m 17 #[.val (.ref o0), .val (.int p1), .unset] [(.ref o0)])) rfl rfl (hb hby dCP_17)
  refine Goes.go st4 ?_
  show Goes p e below _ (T4.setTop (mkF m 20 #[.val (.ref o0), .val (.int p1), .unset] [(.ref t)]))
  refine Goes.go (fun t => XS.iloadN X4.here hx rfl (hb hby dCP_20) rfl ) ?_
  show Goes p e below _ (T4.setTop (mkF m 21 #[.val (.ref o0), .val (.int p1), .unset] [(.int p1), (.ref t)]))
  have hin := inb_of Sz ⟨hp1, hp2⟩
  have hat := Has.at Hh hin (show _ = Value.int (StrChars.lo8 (cs.getD i 0)) by rw [hp3]; exact own_getlo hi)
  refine Goes.go (X4.baloadBytes hx (j := p1) (v := .int (StrChars.lo8 (cs.getD i 0))) (by rw [e4]; exact Ar.1) (State.isArrayOf_alike hZ.alike Ar.2.1) Ar.2.2 hin hat (g := (mkF m 21 #[.val (.ref o0), .val (.int p1), .unset] [(.int p1), (.ref t)])) rfl rfl (hb hby dCP_21)) ?_
  show Goes p e below _ (T4.setTop (mkF m 22 #[.val (.ref o0), .val (.int p1), .unset] [(.int (StrChars.lo8 (cs.getD i 0)))]))
  refine Goes.go (fun t => XS.sipush X4.here hx rfl (hb hby dCP_22)) ?_
  refine Goes.go (fun t => XS.iand X4.here hx rfl (hb hby dCP_25) rfl) ?_
  show Goes p e below _ (T4.setTop (mkF m 26 #[.val (.ref o0), .val (.int p1), .unset] [(.int ((StrChars.lo8 (cs.getD i 0)) &&& (255 : Int32)))]))
  exact Goes.out X4 (fun h => by rw [Bd.returns] at h; cases h) Bd.notSynchronized (fun fs hr => retI X4 hx Bd.returns (hb hby dCP_26) hr) ⟨by rw [own_lo255 (hcs _ (own_mem hi))], N3, e4⟩ (by decide) (by decide)
theorem dHS_0 : decode jdk_89_method_14_code 0 = .ok (.iload_n 0, 1) := by decide +kernel
theorem dHS_1 : decode jdk_89_method_14_code 1 = .ok (.ldc 75, 2) := by decide +kernel
theorem dHS_3 : decode jdk_89_method_14_code 3 = .ok (.if_icmp .lt 13, 3) := by decide +kernel
theorem dHS_16 : decode jdk_89_method_14_code 16 = .ok (.iconst 0, 1) := by decide +kernel
theorem dHS_17 : decode jdk_89_method_14_code 17 = .ok (.ireturn, 1) := by decide +kernel
theorem pn_HS : plainName "java/lang/Character" = true := by first | (simp [plainName, overriddenIn]; done) | decide +kernel
theorem ef_HS (m : MethodId) (p0 : Int32) : entryFrame m #[(.int p0)] 1 = mkF m 0 #[.val (.int p0)] [] := by first | (simp [entryFrame, mkF, argsToLocals, Value.category]; done) | rfl
def QHS (Z : State) (p0 : Int32) (h0 : Heap) (n0 : Nat) (v : Option Value) (h : Heap) (L : List Loc) : Prop := v = some (.int 0) ∧ Fr n0 L ∧ h = h0
set_option maxRecDepth 65536 in
set_option maxHeartbeats 40000000 in
theorem rmHS (l : Launch) (Z : State) (a0 : Array Value) (hw : ∀ d ∈ tables_1, d.before a0 Z = true) (ws : List Jvm.Cond) (p0 : Int32) (h0 : Heap) (n0 : Nat) (Z0 : n0 ≤ h0.size) (h1 : p0 < 55296) :
    MetFree l (⟨"java/lang/Character", "isHighSurrogate", "(C)Z"⟩ : MethodName) (head1 (Jvm.Cond.code (⟨"java/lang/Character", "isHighSurrogate", "(C)Z"⟩ : MethodName) jdk_89_method_14_code 1 (some .boolean) :: ws) (oR 0 0 0 0)) (fun a U => a = #[(.int p0)] ∧ Z.Warmed39 U.vm ∧ U.heap = h0) (fun _ _ _ _ _ => True) (fun _ U o U' => ∃ v L, o = .returned v ∧ QHS Z p0 h0 n0 v U'.heap L ∧ FrameEnd U o U' L (oR 0 0 0 0).cells (oR 0 0 0 0).slots) := by
  refine MetFree.of_bodySF (plainFor_of_name pn_HS) hisR ?_
  intro p e s m args below meth c s₁ Bd hml0 hP hK
  obtain ⟨rfl, hZ, hh⟩ := hP
  have hx := Bd.exec
  have hby := Bd.bytes
  have hml : c.maxLocals = 1 := hml0
  have hown : s.vm.findClass "java/lang/Character" = some m.cls := findClass_of_methodNamed Bd.named
  have hnm := (name_of_methodNamed Bd.named Bd.method).1
  have X0 : Stand p l e (oR 0 0 0 0) s m #[(.int p0)] below meth c s₁ [] 0 0 := Stand.of_body Bd
  have e0 : s₁.heap = h0 := by rw [← hh, Bd.state]; rfl
  have N0 := Fr.nil n0
  show Goes p e below (fun o U' => ∃ v L, o = .returned v ∧ QHS Z p0 h0 n0 v U'.heap L ∧ FrameEnd s o U' L (oR 0 0 0 0).cells (oR 0 0 0 0).slots) _
  refine Goes.go (fun t k => castTop (ef_HS m p0) k) ?_
  show Goes p e below _ (s₁.setTop (mkF m 0 #[.val (.int p0)] []))
  refine Goes.go (fun t => XS.iloadN X0.here hx rfl (hb hby dHS_0) rfl ) ?_
  show Goes p e below _ (s₁.setTop (mkF m 1 #[.val (.int p0)] [(.int p0)]))
  refine Goes.go (fun t => X0.ldcI hx hown (mvT hZ (own_h hw 152 rfl)) rfl (hb hby dHS_1)) ?_
  show Goes p e below _ (s₁.setTop (mkF m 3 #[.val (.int p0)] [(.int (55296 : Int32)), (.int p0)]))
  refine Goes.go (fun t => XS.icmpYes X0.here hx rfl (pc0 := 3) (pc' := 16) rfl (hb hby dHS_3) rfl (Jvm.Free.XT.ii_lt_t h1) (by decide) (by decide)) ?_
  show Goes p e below _ (s₁.setTop (mkF m 16 #[.val (.int p0)] []))
  refine Goes.go (fun t => XS.iconst X0.here hx rfl (hb hby dHS_16)) ?_
  show Goes p e below _ (s₁.setTop (mkF m 17 #[.val (.int p0)] [(.int (0 : Int32))]))
  exact Goes.out X0 (fun h => by rw [Bd.returns] at h; cases h) Bd.notSynchronized (fun fs hr => retN X0 hx (t := .boolean) Bd.returns (by simp) (hb hby dHS_17) hr) ⟨rfl, N0, e0⟩ (by decide) (by decide)
theorem dCC_0 : decode jdk_89_method_18_code 0 = .ok (.iload_n 0, 1) := by decide +kernel
theorem dCC_1 : decode jdk_89_method_18_code 1 = .ok (.ldc 73, 2) := by decide +kernel
theorem dCC_3 : decode jdk_89_method_18_code 3 = .ok (.if_icmp .lt 7, 3) := by decide +kernel
theorem dCC_10 : decode jdk_89_method_18_code 10 = .ok (.iconst 1, 1) := by decide +kernel
theorem dCC_11 : decode jdk_89_method_18_code 11 = .ok (.ireturn, 1) := by decide +kernel
theorem pn_CC : plainName "java/lang/Character" = true := by first | (simp [plainName, overriddenIn]; done) | decide +kernel
theorem ef_CC (m : MethodId) (p0 : Int32) : entryFrame m #[(.int p0)] 1 = mkF m 0 #[.val (.int p0)] [] := by first | (simp [entryFrame, mkF, argsToLocals, Value.category]; done) | rfl
def QCC (Z : State) (p0 : Int32) (h0 : Heap) (n0 : Nat) (v : Option Value) (h : Heap) (L : List Loc) : Prop := v = some (.int 1) ∧ Fr n0 L ∧ h = h0
set_option maxRecDepth 65536 in
set_option maxHeartbeats 40000000 in
theorem rmCC (l : Launch) (Z : State) (a0 : Array Value) (hw : ∀ d ∈ tables_1, d.before a0 Z = true) (ws : List Jvm.Cond) (p0 : Int32) (h0 : Heap) (n0 : Nat) (Z0 : n0 ≤ h0.size) (h1 : p0 < 65536) :
    MetFree l (⟨"java/lang/Character", "charCount", "(I)I"⟩ : MethodName) (head1 (Jvm.Cond.code (⟨"java/lang/Character", "charCount", "(I)I"⟩ : MethodName) jdk_89_method_18_code 1 (some .int) :: ws) (oR 0 0 0 0)) (fun a U => a = #[(.int p0)] ∧ Z.Warmed39 U.vm ∧ U.heap = h0) (fun _ _ _ _ _ => True) (fun _ U o U' => ∃ v L, o = .returned v ∧ QCC Z p0 h0 n0 v U'.heap L ∧ FrameEnd U o U' L (oR 0 0 0 0).cells (oR 0 0 0 0).slots) := by
  refine MetFree.of_bodySF (plainFor_of_name pn_CC) hisR ?_
  intro p e s m args below meth c s₁ Bd hml0 hP hK
  obtain ⟨rfl, hZ, hh⟩ := hP
  have hx := Bd.exec
  have hby := Bd.bytes
  have hml : c.maxLocals = 1 := hml0
  have hown : s.vm.findClass "java/lang/Character" = some m.cls := findClass_of_methodNamed Bd.named
  have hnm := (name_of_methodNamed Bd.named Bd.method).1
  have X0 : Stand p l e (oR 0 0 0 0) s m #[(.int p0)] below meth c s₁ [] 0 0 := Stand.of_body Bd
  have e0 : s₁.heap = h0 := by rw [← hh, Bd.state]; rfl
  have N0 := Fr.nil n0
  show Goes p e below (fun o U' => ∃ v L, o = .returned v ∧ QCC Z p0 h0 n0 v U'.heap L ∧ FrameEnd s o U' L (oR 0 0 0 0).cells (oR 0 0 0 0).slots) _
  refine Goes.go (fun t k => castTop (ef_CC m p0) k) ?_
  show Goes p e below _ (s₁.setTop (mkF m 0 #[.val (.int p0)] []))
  refine Goes.go (fun t => XS.iloadN X0.here hx rfl (hb hby dCC_0) rfl ) ?_
  show Goes p e below _ (s₁.setTop (mkF m 1 #[.val (.int p0)] [(.int p0)]))
  refine Goes.go (fun t => X0.ldcI hx hown (mvT hZ (own_h hw 162 rfl)) rfl (hb hby dCC_1)) ?_
  show Goes p e below _ (s₁.setTop (mkF m 3 #[.val (.int p0)] [(.int (65536 : Int32)), (.int p0)]))
  refine Goes.go (fun t => XS.icmpYes X0.here hx rfl (pc0 := 3) (pc' := 10) rfl (hb hby dCC_3) rfl (Jvm.Free.XT.ii_lt_t h1) (by decide) (by decide)) ?_
  show Goes p e below _ (s₁.setTop (mkF m 10 #[.val (.int p0)] []))
  refine Goes.go (fun t => XS.iconst X0.here hx rfl (hb hby dCC_10)) ?_
  show Goes p e below _ (s₁.setTop (mkF m 11 #[.val (.int p0)] [(.int (1 : Int32))]))
  exact Goes.out X0 (fun h => by rw [Bd.returns] at h; cases h) Bd.notSynchronized (fun fs hr => retI X0 hx Bd.returns (hb hby dCC_11) hr) ⟨rfl, N0, e0⟩ (by decide) (by decide)
theorem dKP_0 : decode jdk_89_method_20_code 0 = .ok (.aload_n 0, 1) := by decide +kernel
theorem dKP_1 : decode jdk_89_method_20_code 1 = .ok (.iload_n 1, 1) := by decide +kernel
theorem dKP_2 : decode jdk_89_method_20_code 2 = .ok (.invokeinterface 86 2, 5) := by decide +kernel
theorem dKP_7 : decode jdk_89_method_20_code 7 = .ok (.istore_n 2, 1) := by decide +kernel
theorem dKP_8 : decode jdk_89_method_20_code 8 = .ok (.iload_n 2, 1) := by decide +kernel
theorem dKP_9 : decode jdk_89_method_20_code 9 = .ok (.invokestatic 78, 3) := by decide +kernel
theorem dKP_12 : decode jdk_89_method_20_code 12 = .ok (.ifCond .eq 37, 3) := by decide +kernel
theorem dKP_49 : decode jdk_89_method_20_code 49 = .ok (.iload_n 2, 1) := by decide +kernel
theorem dKP_50 : decode jdk_89_method_20_code 50 = .ok (.ireturn, 1) := by decide +kernel
theorem pn_KP : plainName "java/lang/Character" = true := by first | (simp [plainName, overriddenIn]; done) | decide +kernel
theorem pdKP_0 : parseMethodDescriptor "(I)C" = some ⟨[.int], some .char⟩ := by decide +kernel
theorem pdKP_1 : parseMethodDescriptor "(C)Z" = some ⟨[.char], some .boolean⟩ := by decide +kernel
theorem ef_KP (m : MethodId) (o0 : Addr) (p1 : Int32) : entryFrame m #[(.ref o0), (.int p1)] 4 = mkF m 0 #[.val (.ref o0), .val (.int p1), .unset, .unset] [] := by first | (simp [entryFrame, mkF, argsToLocals, Value.category]; done) | rfl
def QKP (Z : State) (o0 : Addr) (p1 : Int32) (z : Int32) (fm : Value) (cs : List Int32) (i : Nat) (h0 : Heap) (n0 : Nat) (v : Option Value) (h : Heap) (L : List Loc) : Prop := v = some (.int (cs.getD i 0)) ∧ Fr n0 L ∧ h = h0
set_option maxRecDepth 65536 in
set_option maxHeartbeats 40000000 in
theorem rmKP (l : Launch) (Z : State) (a0 : Array Value) (hw : ∀ d ∈ tables_1, d.before a0 Z = true) (ws : List Jvm.Cond) (o0 : Addr) (p1 : Int32) (z : Int32) (fm : Value) (cs : List Int32) (i : Nat) (h0 : Heap) (n0 : Nat) (Z0 : n0 ≤ h0.size) (S : own_s Z h0 o0 cs) (S_z : Sta Z h0 "java/lang/String" "COMPACT_STRINGS" "Z" (.int z)) (hz : ¬ z = 0) (S_f : Sta Z h0 "jdk/internal/util/Preconditions" "SIOOBE_FORMATTER" "Ljava/util/function/BiFunction;" fm) (rf : fm.isRef = true) (hi : i < cs.length) (hp : p1 = Int32.ofNat i) :
    MetFree l (⟨"java/lang/Character", "codePointAt", "(Ljava/lang/CharSequence;I)I"⟩ : MethodName) (head1 (Jvm.Cond.code (⟨"java/lang/Character", "codePointAt", "(Ljava/lang/CharSequence;I)I"⟩ : MethodName) jdk_89_method_20_code 4 (some .int) :: ws) (oR 4 0 0 53)) (fun a U => a = #[(.ref o0), (.int p1)] ∧ Z.Warmed39 U.vm ∧ U.heap = h0) (fun _ _ _ _ _ => True) (fun _ U o U' => ∃ v L, o = .returned v ∧ QKP Z o0 p1 z fm cs i h0 n0 v U'.heap L ∧ FrameEnd U o U' L (oR 4 0 0 53).cells (oR 4 0 0 53).slots) := by
  refine MetFree.of_bodySF (plainFor_of_name pn_KP) hisR ?_
  intro p e s m args below meth c s₁ Bd hml0 hP hK
  obtain ⟨rfl, hZ, hh⟩ := hP
  have hx := Bd.exec
  have hby := Bd.bytes
  have hml : c.maxLocals = 4 := hml0
  have hown : s.vm.findClass "java/lang/Character" = some m.cls := findClass_of_methodNamed Bd.named
  have hnm := (name_of_methodNamed Bd.named Bd.method).1
  have X0 : Stand p l e (oR 4 0 0 53) s m #[(.ref o0), (.int p1)] below meth c s₁ [] 0 0 := Stand.of_body Bd
  have e0 : s₁.heap = h0 := by rw [← hh, Bd.state]; rfl
  have N0 := Fr.nil n0
  show Goes p e below (fun o U' => ∃ v L, o = .returned v ∧ QKP Z o0 p1 z fm cs i h0 n0 v U'.heap L ∧ FrameEnd s o U' L (oR 4 0 0 53).cells (oR 4 0 0 53).slots) _
  refine Goes.go (fun t k => castTop (ef_KP m o0 p1) k) ?_
  obtain ⟨E_s, F_c, ⟨t, kb, F_v, A_v⟩, hcs, hl⟩ := id S
  show Goes p e below _ (s₁.setTop (mkF m 0 #[.val (.ref o0), .val (.int p1), .unset, .unset] []))
  refine Goes.go (fun t => XS.aloadN X0.here hx rfl (hb hby dKP_0) rfl rfl ) ?_
  refine Goes.go (fun t => XS.iloadN X0.here hx rfl (hb hby dKP_1) rfl ) ?_
  show Goes p e below _ (s₁.setTop (mkF m 2 #[.val (.ref o0), .val (.int p1), .unset, .unset] [(.int p1), (.ref o0)]))
  obtain ⟨cq1, kq1, q1a, q1b, q1c⟩ := isOf hZ e0 E_s
  obtain ⟨_, _, ⟨T1, L1, k1, n1⟩, -, X1, ⟨Lc1, hQ1, l1, y1, z1⟩, st1⟩ := X0.interfaceBack hx (xi := (⟨"java/lang/CharSequence", "charAt", "(I)C"⟩ : MethodName)) (y := (⟨"java/lang/String", "charAt", "(I)C"⟩ : MethodName)) hown (mvT hZ (own_h hw 124 rfl)) (mvT hZ (own_h hw 125 rfl)) (mvT hZ (own_h hw 126 rfl)) (mvT hZ (own_h hw 127 rfl)) (mvT hZ (own_h hw 128 rfl)) (mvT hZ (own_h hw 129 rfl)) (mvT hZ (own_h hw 130 rfl)) (mvT hZ (own_h hw 113 rfl)) (by decide) (StrChars.Road.chN (W := 0) hZ (fun d hd => hw d (own_wCh d hd)) (kI := 4) (own_h hw 13 rfl) E_s F_v F_c A_v (own_cod hcs) (own_up hcs) S_z hz S_f rf hl (i := i) hi (j := p1) hp (by decide) (by decide)) q1a q1b q1c (g := (mkF m 2 #[.val (.ref o0), .val (.int p1), .unset, .unset] [(.int p1), (.ref o0)])) rfl (by rw [hml]; rfl) (Steps.refl _) (argsL := [(.int p1)]) (rest := []) (lenOf pdKP_0 rfl) rfl (by show 2 * 0 + _ ≤ _; exact Nat.le_of_eq rfl) (hb hby dKP_2) (fun _ _ => ⟨rfl, e0, (by decide : 0 + 0 ≤ _), (by decide : 0 + 0 ≤ _)⟩)
  dsimp only [Pt.U, Pt.locs, Pt.cells, Pt.slots] at X1 l1 y1 z1 st1 hQ1
  subst l1 y1 z1
  obtain ⟨rfl, rfl, e1q⟩ := hQ1
  have N1q : Fr n0 ([] : List Loc) := Fr.nil n0
  have N1 := Fr.app N0 N1q
  refine Goes.via st1 ?_
  show Goes p e below _ (T1.setTop (mkF m 7 #[.val (.ref o0), .val (.int p1), .unset, .unset] [(.int (cs.getD i 0))]))
  refine Goes.go (fun t => XS.istoreN X1.here hx rfl (hb hby dKP_7) rfl (l' := #[.val (.ref o0), .val (.int p1), .val (.int (cs.getD i 0)), .unset]) rfl) ?_
  refine Goes.go (fun t => XS.iloadN X1.here hx rfl (hb hby dKP_8) rfl ) ?_
  show Goes p e below _ (T1.setTop (mkF m 9 #[.val (.ref o0), .val (.int p1), .val (.int (cs.getD i 0)), .unset] [(.int (cs.getD i 0))]))
  obtain ⟨_, _, ⟨T2, L2, k2, n2⟩, -, X2, ⟨Lc2, hQ2, l2, y2, z2⟩, st2⟩ := Jvm.LawKit.callS X1 hx (y := (⟨"java/lang/Character", "isHighSurrogate", "(C)Z"⟩ : MethodName)) hown (mvT hZ (own_h hw 149 rfl)) (mvT hZ (own_h hw 150 rfl)) (mvT hZ (own_h hw 122 rfl)) (mvT hZ (own_h hw 151 rfl)) (by decide) (backOf (W := 0) (rmHS l Z a0 hw [] (cs.getD i 0) h0 n0 Z0 (own_small (hcs _ (own_mem hi)) (by decide))) hZ (own_h hw 151 rfl) (own_h hw 122 rfl) (by decide) (by decide)) (g := (mkF m 9 #[.val (.ref o0), .val (.int p1), .val (.int (cs.getD i 0)), .unset] [(.int (cs.getD i 0))])) rfl (by rw [hml]; rfl) (argsL := [(.int (cs.getD i 0))]) (rest := []) (lenOf pdKP_1 rfl) rfl (by show 2 * 0 + _ ≤ _; exact Nat.le_of_eq rfl) (hb hby dKP_9) (fun _ _ => ⟨rfl, e1q, (by decide : 0 + 0 ≤ _), (by decide : 0 + 0 ≤ _)⟩)
  dsimp only [Pt.U, Pt.locs, Pt.cells, Pt.slots] at X2 l2 y2 z2 st2 hQ2
  subst l2 y2 z2
  obtain ⟨rfl, N2q, e2q⟩ := hQ2
  have N2 := Fr.app N1 N2q
  refine Goes.go st2 ?_
  show Goes p e below _ (T2.setTop (mkF m 12 #[.val (.ref o0), .val (.int p1), .val (.int (cs.getD i 0)), .unset] [(.int (0 : Int32))]))
  refine Goes.go (fun t => XS.ifYes X2.here hx rfl (pc0 := 12) (pc' := 49) rfl (hb hby dKP_12) rfl (Jvm.Free.XT.i0_eq_t (by decide)) (by decide) (by decide)) ?_
  show Goes p e below _ (T2.setTop (mkF m 49 #[.val (.ref o0), .val (.int p1), .val (.int (cs.getD i 0)), .unset] []))
  refine Goes.go (fun t => XS.iloadN X2.here hx rfl (hb hby dKP_49) rfl ) ?_
  show Goes p e below _ (T2.setTop (mkF m 50 #[.val (.ref o0), .val (.int p1), .val (.int (cs.getD i 0)), .unset] [(.int (cs.getD i 0))]))
  exact Goes.out X2 (fun h => by rw [Bd.returns] at h; cases h) Bd.notSynchronized (fun fs hr => retI X2 hx Bd.returns (hb hby dKP_50) hr) ⟨rfl, N2, e2q⟩ (by decide) (by decide)
theorem dSC_0 : decode prog_228_method_11_code 0 = .ok (.iload_n 0, 1) := by decide +kernel
theorem dSC_1 : decode prog_228_method_11_code 1 = .ok (.ifCond .lt 20, 3) := by decide +kernel
theorem dSC_4 : decode prog_228_method_11_code 4 = .ok (.iload_n 0, 1) := by decide +kernel
theorem dSC_5 : decode prog_228_method_11_code 5 = .ok (.getstatic 101, 3) := by decide +kernel
theorem dSC_8 : decode prog_228_method_11_code 8 = .ok (.arraylength, 1) := by decide +kernel
theorem dSC_9 : decode prog_228_method_11_code 9 = .ok (.if_icmp .ge 12, 3) := by decide +kernel
theorem dSC_12 : decode prog_228_method_11_code 12 = .ok (.getstatic 101, 3) := by decide +kernel
theorem dSC_15 : decode prog_228_method_11_code 15 = .ok (.iload_n 0, 1) := by decide +kernel
theorem dSC_16 : decode prog_228_method_11_code 16 = .ok (.baload, 1) := by decide +kernel
theorem dSC_17 : decode prog_228_method_11_code 17 = .ok (.istore_n 1, 1) := by decide +kernel
theorem dSC_18 : decode prog_228_method_11_code 18 = .ok (.goto 11, 3) := by decide +kernel
theorem dSC_29 : decode prog_228_method_11_code 29 = .ok (.iload_n 1, 1) := by decide +kernel
theorem dSC_30 : decode prog_228_method_11_code 30 = .ok (.ireturn, 1) := by decide +kernel
theorem pn_SC : plainName oXC = true := by first | (simp [plainName, overriddenIn]; done) | decide +kernel
theorem ef_SC (m : MethodId) (p0 : Int32) : entryFrame m #[(.int p0)] 2 = mkF m 0 #[.val (.int p0), .unset] [] := by first | (simp [entryFrame, mkF, argsToLocals, Value.category]; done) | rfl
def QSC (Z : State) (p0 : Int32) (w : Addr) (cl : Cell) (h0 : Heap) (n0 : Nat) (v : Option Value) (h : Heap) (L : List Loc) : Prop := v = some (.int 1) ∧ Fr n0 L ∧ h = h0
set_option maxRecDepth 65536 in
set_option maxHeartbeats 40000000 in
theorem rmSC (l : Launch) (Z : State) (a0 : Array Value) (hw : ∀ d ∈ tables_1, d.before a0 Z = true) (ws : List Jvm.Cond) (p0 : Int32) (w : Addr) (cl : Cell) (h0 : Heap) (n0 : Nat) (Z0 : n0 ≤ h0.size) (S_a : Sta Z h0 oXC "ASCII_NAME_START_CHARS" "[Z" (.ref w)) (Ar : Arr Z h0 w cl .boolean) (Sz : cl.slots.size = 128) (hat : cl.slots[p0.toNatClampNeg]? = some (.int 1)) (h1 : ¬ p0 < 0) (h2 : p0 < 128) :
    MetFree l (⟨oXC, "isNCNameStartChar", "(I)Z"⟩ : MethodName) (head1 (Jvm.Cond.code (⟨oXC, "isNCNameStartChar", "(I)Z"⟩ : MethodName) prog_228_method_11_code 2 (some .boolean) :: ws) (oR 0 0 0 0)) (fun a U => a = #[(.int p0)] ∧ Z.Warmed39 U.vm ∧ U.heap = h0) (fun _ _ _ _ _ => True) (fun _ U o U' => ∃ v L, o = .returned v ∧ QSC Z p0 w cl h0 n0 v U'.heap L ∧ FrameEnd U o U' L (oR 0 0 0 0).cells (oR 0 0 0 0).slots) := by
  refine MetFree.of_bodySF (plainFor_of_name pn_SC) hisR ?_
  intro p e s m args below meth c s₁ Bd hml0 hP hK
  obtain ⟨rfl, hZ, hh⟩ := hP
  have hx := Bd.exec
  have hby := Bd.bytes
  have hml : c.maxLocals = 2 := hml0
  have hown : s.vm.findClass oXC = some m.cls := findClass_of_methodNamed Bd.named
  have hnm := (name_of_methodNamed Bd.named Bd.method).1
  have X0 : Stand p l e (oR 0 0 0 0) s m #[(.int p0)] below meth c s₁ [] 0 0 := Stand.of_body Bd
  have e0 : s₁.heap = h0 := by rw [← hh, Bd.state]; rfl
  have N0 := Fr.nil n0
  show Goes p e below (fun o U' => ∃ v L, o = .returned v ∧ QSC Z p0 w cl h0 n0 v U'.heap L ∧ FrameEnd s o U' L (oR 0 0 0 0).cells (oR 0 0 0 0).slots) _
  refine Goes.go (fun t k => castTop (ef_SC m p0) k) ?_
  show Goes p e below _ (s₁.setTop (mkF m 0 #[.val (.int p0), .unset] []))
  refine Goes.go (fun t => XS.iloadN X0.here hx rfl (hb hby dSC_0) rfl ) ?_
  show Goes p e below _ (s₁.setTop (mkF m 1 #[.val (.int p0), .unset] [(.int p0)]))
  refine Goes.go (fun t => XS.ifNo X0.here hx rfl (hb hby dSC_1) rfl (Jvm.Free.XT.i0_lt_f h1)) ?_
  show Goes p e below _ (s₁.setTop (mkF m 4 #[.val (.int p0), .unset] []))
  refine Goes.go (fun t => XS.iloadN X0.here hx rfl (hb hby dSC_4) rfl ) ?_
  show Goes p e below _ (s₁.setTop (mkF m 5 #[.val (.int p0), .unset] [(.int p0)]))
  obtain ⟨T1, X1, e1, st1⟩ := getS2 X0 hx hZ hown (host := "") (Or.inl (own_h hw 157 rfl)) Via.refl e0 S_a (g := (mkF m 5 #[.val (.int p0), .unset] [(.int p0)])) rfl (hb hby dSC_5)
  refine Goes.go st1 ?_
  show Goes p e below _ (T1.setTop (mkF m 8 #[.val (.int p0), .unset] [(.ref w), (.int p0)]))
  have hlen : cl.slots.size.toInt32 = 128 := by rw [Sz]; rfl
  refine Goes.go (X1.arraylength hx (by rw [e1]; exact Ar.1) (State.isArrayOf_alike hZ.alike Ar.2.1) (g := (mkF m 8 #[.val (.int p0), .unset] [(.ref w), (.int p0)])) rfl rfl (hb hby dSC_8)) ?_
  rw [hlen]
  show Goes p e below _ (T1.setTop (mkF m 9 #[.val (.int p0), .unset] [(.int (128 : Int32)), (.int p0)]))
  refine Goes.go (fun t => XS.icmpNo X1.here hx rfl (hb hby dSC_9) rfl (Jvm.Free.XT.ii_ge_f h2)) ?_
  show Goes p e below _ (T1.setTop (mkF m 12 #[.val (.int p0), .unset] []))
  obtain ⟨T2, X2, e2, st2⟩ := getS2 X1 hx hZ hown (host := "") (Or.inl (own_h hw 157 rfl)) Via.refl e1 S_a (g := (mkF m 12 #[.val (.int p0), .unset] [])) rfl (hb hby dSC_12)
  refine Goes.go st2 ?_
  show Goes p e below _ (T2.setTop (mkF m 15 #[.val (.int p0), .unset] [(.ref w)]))
  refine Goes.go (fun t => XS.iloadN X2.here hx rfl (hb hby dSC_15) rfl ) ?_
  show Goes p e below _ (T2.setTop (mkF m 16 #[.val (.int p0), .unset] [(.int p0), (.ref w)]))
  refine Goes.go (X2.baloadBooleans hx (j := p0) (v := .int 1) (by rw [e2]; exact Ar.1) (State.isArrayOf_alike hZ.alike Ar.2.1) Ar.2.2 (by rw [Sz]; exact own_in h1 (own_lt128 h2)) hat (g := (mkF m 16 #[.val (.int p0), .unset] [(.int p0), (.ref w)])) rfl rfl (hb hby dSC_16)) ?_
  show Goes p e below _ (T2.setTop (mkF m 17 #[.val (.int p0), .unset] [(.int (1 : Int32))]))
  refine Goes.go (fun t => XS.istoreN X2.here hx rfl (hb hby dSC_17) rfl (l' := #[.val (.int p0), .val (.int (1 : Int32))]) rfl) ?_
  refine Goes.go (fun t => XS.goto X2.here hx rfl (pc0 := 18) (pc' := 29) rfl (hb hby dSC_18) (by decide) (by decide)) ?_
  refine Goes.go (fun t => XS.iloadN X2.here hx rfl (hb hby dSC_29) rfl ) ?_
  show Goes p e below _ (T2.setTop (mkF m 30 #[.val (.int p0), .val (.int (1 : Int32))] [(.int (1 : Int32))]))
  exact Goes.out X2 (fun h => by rw [Bd.returns] at h; cases h) Bd.notSynchronized (fun fs hr => retN X2 hx (t := .boolean) Bd.returns (by simp) (hb hby dSC_30) hr) ⟨rfl, N0, e2⟩ (by decide) (by decide)
theorem dMC_0 : decode prog_228_method_12_code 0 = .ok (.iload_n 0, 1) := by decide +kernel
theorem dMC_1 : decode prog_228_method_12_code 1 = .ok (.ifCond .lt 20, 3) := by decide +kernel
theorem dMC_4 : decode prog_228_method_12_code 4 = .ok (.iload_n 0, 1) := by decide +kernel
theorem dMC_5 : decode prog_228_method_12_code 5 = .ok (.getstatic 113, 3) := by decide +kernel
theorem dMC_8 : decode prog_228_method_12_code 8 = .ok (.arraylength, 1) := by decide +kernel
theorem dMC_9 : decode prog_228_method_12_code 9 = .ok (.if_icmp .ge 12, 3) := by decide +kernel
theorem dMC_12 : decode prog_228_method_12_code 12 = .ok (.getstatic 113, 3) := by decide +kernel
theorem dMC_15 : decode prog_228_method_12_code 15 = .ok (.iload_n 0, 1) := by decide +kernel
theorem dMC_16 : decode prog_228_method_12_code 16 = .ok (.baload, 1) := by decide +kernel
theorem dMC_17 : decode prog_228_method_12_code 17 = .ok (.istore_n 1, 1) := by decide +kernel
theorem dMC_18 : decode prog_228_method_12_code 18 = .ok (.goto 29, 3) := by decide +kernel
theorem dMC_47 : decode prog_228_method_12_code 47 = .ok (.iload_n 1, 1) := by decide +kernel
theorem dMC_48 : decode prog_228_method_12_code 48 = .ok (.ireturn, 1) := by decide +kernel
theorem pn_MC : plainName oXC = true := by first | (simp [plainName, overriddenIn]; done) | decide +kernel
theorem ef_MC (m : MethodId) (p0 : Int32) : entryFrame m #[(.int p0)] 2 = mkF m 0 #[.val (.int p0), .unset] [] := by first | (simp [entryFrame, mkF, argsToLocals, Value.category]; done) | rfl
def QMC (Z : State) (p0 : Int32) (w : Addr) (cl : Cell) (h0 : Heap) (n0 : Nat) (v : Option Value) (h : Heap) (L : List Loc) : Prop := v = some (.int 1) ∧ Fr n0 L ∧ h = h0
set_option maxRecDepth 65536 in
set_option maxHeartbeats 40000000 in
theorem rmMC (l : Launch) (Z : State) (a0 : Array Value) (hw : ∀ d ∈ tables_1, d.before a0 Z = true) (ws : List Jvm.Cond) (p0 : Int32) (w : Addr) (cl : Cell) (h0 : Heap) (n0 : Nat) (Z0 : n0 ≤ h0.size) (S_a : Sta Z h0 oXC "ASCII_NAME_CHARS" "[Z" (.ref w)) (Ar : Arr Z h0 w cl .boolean) (Sz : cl.slots.size = 128) (hat : cl.slots[p0.toNatClampNeg]? = some (.int 1)) (h1 : ¬ p0 < 0) (h2 : p0 < 128) :
    MetFree l (⟨oXC, "isNCNameChar", "(I)Z"⟩ : MethodName) (head1 (Jvm.Cond.code (⟨oXC, "isNCNameChar", "(I)Z"⟩ : MethodName) prog_228_method_12_code 2 (some .boolean) :: ws) (oR 0 0 0 0)) (fun a U => a = #[(.int p0)] ∧ Z.Warmed39 U.vm ∧ U.heap = h0) (fun _ _ _ _ _ => True) (fun _ U o U' => ∃ v L, o = .returned v ∧ QMC Z p0 w cl h0 n0 v U'.heap L ∧ FrameEnd U o U' L (oR 0 0 0 0).cells (oR 0 0 0 0).slots) := by
  refine MetFree.of_bodySF (plainFor_of_name pn_MC) hisR ?_
  intro p e s m args below meth c s₁ Bd hml0 hP hK
  obtain ⟨rfl, hZ, hh⟩ := hP
  have hx := Bd.exec
  have hby := Bd.bytes
  have hml : c.maxLocals = 2 := hml0
  have hown : s.vm.findClass oXC = some m.cls := findClass_of_methodNamed Bd.named
  have hnm := (name_of_methodNamed Bd.named Bd.method).1
  have X0 : Stand p l e (oR 0 0 0 0) s m #[(.int p0)] below meth c s₁ [] 0 0 := Stand.of_body Bd
  have e0 : s₁.heap = h0 := by rw [← hh, Bd.state]; rfl
  have N0 := Fr.nil n0
  show Goes p e below (fun o U' => ∃ v L, o = .returned v ∧ QMC Z p0 w cl h0 n0 v U'.heap L ∧ FrameEnd s o U' L (oR 0 0 0 0).cells (oR 0 0 0 0).slots) _
  refine Goes.go (fun t k => castTop (ef_MC m p0) k) ?_
  show Goes p e below _ (s₁.setTop (mkF m 0 #[.val (.int p0), .unset] []))
  refine Goes.go (fun t => XS.iloadN X0.here hx rfl (hb hby dMC_0) rfl ) ?_
  show Goes p e below _ (s₁.setTop (mkF m 1 #[.val (.int p0), .unset] [(.int p0)]))
  refine Goes.go (fun t => XS.ifNo X0.here hx rfl (hb hby dMC_1) rfl (Jvm.Free.XT.i0_lt_f h1)) ?_
  show Goes p e below _ (s₁.setTop (mkF m 4 #[.val (.int p0), .unset] []))
  refine Goes.go (fun t => XS.iloadN X0.here hx rfl (hb hby dMC_4) rfl ) ?_
  show Goes p e below _ (s₁.setTop (mkF m 5 #[.val (.int p0), .unset] [(.int p0)]))
  obtain ⟨T1, X1, e1, st1⟩ := getS2 X0 hx hZ hown (host := "") (Or.inl (own_h hw 166 rfl)) Via.refl e0 S_a (g := (mkF m 5 #[.val (.int p0), .unset] [(.int p0)])) rfl (hb hby dMC_5)
  refine Goes.go st1 ?_
  show Goes p e below _ (T1.setTop (mkF m 8 #[.val (.int p0), .unset] [(.ref w), (.int p0)]))
  have hlen : cl.slots.size.toInt32 = 128 := by rw [Sz]; rfl
  refine Goes.go (X1.arraylength hx (by rw [e1]; exact Ar.1) (State.isArrayOf_alike hZ.alike Ar.2.1) (g := (mkF m 8 #[.val (.int p0), .unset] [(.ref w), (.int p0)])) rfl rfl (hb hby dMC_8)) ?_
  rw [hlen]
  show Goes p e below _ (T1.setTop (mkF m 9 #[.val (.int p0), .unset] [(.int (128 : Int32)), (.int p0)]))
  refine Goes.go (fun t => XS.icmpNo X1.here hx rfl (hb hby dMC_9) rfl (Jvm.Free.XT.ii_ge_f h2)) ?_
  show Goes p e below _ (T1.setTop (mkF m 12 #[.val (.int p0), .unset] []))
  obtain ⟨T2, X2, e2, st2⟩ := getS2 X1 hx hZ hown (host := "") (Or.inl (own_h hw 166 rfl)) Via.refl e1 S_a (g := (mkF m 12 #[.val (.int p0), .unset] [])) rfl (hb hby dMC_12)
  refine Goes.go st2 ?_
  show Goes p e below _ (T2.setTop (mkF m 15 #[.val (.int p0), .unset] [(.ref w)]))
  refine Goes.go (fun t => XS.iloadN X2.here hx rfl (hb hby dMC_15) rfl ) ?_
  show Goes p e below _ (T2.setTop (mkF m 16 #[.val (.int p0), .unset] [(.int p0), (.ref w)]))
  refine Goes.go (X2.baloadBooleans hx (j := p0) (v := .int 1) (by rw [e2]; exact Ar.1) (State.isArrayOf_alike hZ.alike Ar.2.1) Ar.2.2 (by rw [Sz]; exact own_in h1 (own_lt128 h2)) hat (g := (mkF m 16 #[.val (.int p0), .unset] [(.int p0), (.ref w)])) rfl rfl (hb hby dMC_16)) ?_
  show Goes p e below _ (T2.setTop (mkF m 17 #[.val (.int p0), .unset] [(.int (1 : Int32))]))
  refine Goes.go (fun t => XS.istoreN X2.here hx rfl (hb hby dMC_17) rfl (l' := #[.val (.int p0), .val (.int (1 : Int32))]) rfl) ?_
  refine Goes.go (fun t => XS.goto X2.here hx rfl (pc0 := 18) (pc' := 47) rfl (hb hby dMC_18) (by decide) (by decide)) ?_
  refine Goes.go (fun t => XS.iloadN X2.here hx rfl (hb hby dMC_47) rfl ) ?_
  show Goes p e below _ (T2.setTop (mkF m 48 #[.val (.int p0), .val (.int (1 : Int32))] [(.int (1 : Int32))]))
  exact Goes.out X2 (fun h => by rw [Bd.returns] at h; cases h) Bd.notSynchronized (fun fs hr => retN X2 hx (t := .boolean) Bd.returns (by simp) (hb hby dMC_48) hr) ⟨rfl, N0, e2⟩ (by decide) (by decide)
theorem dIX_0 : decode prog_228_method_5_code 0 = .ok (.iload_n 0, 1) := by decide +kernel
theorem dIX_1 : decode prog_228_method_5_code 1 = .ok (.bipush 32, 2) := by decide +kernel
theorem dIX_3 : decode prog_228_method_5_code 3 = .ok (.if_icmp .lt 9, 3) := by decide +kernel
theorem dIX_6 : decode prog_228_method_5_code 6 = .ok (.iload_n 0, 1) := by decide +kernel
theorem dIX_7 : decode prog_228_method_5_code 7 = .ok (.ldc 41, 2) := by decide +kernel
theorem dIX_9 : decode prog_228_method_5_code 9 = .ok (.if_icmp .le 45, 3) := by decide +kernel
theorem dIX_54 : decode prog_228_method_5_code 54 = .ok (.iconst 1, 1) := by decide +kernel
theorem dIX_55 : decode prog_228_method_5_code 55 = .ok (.goto 4, 3) := by decide +kernel
theorem dIX_59 : decode prog_228_method_5_code 59 = .ok (.ireturn, 1) := by decide +kernel
theorem pn_IX : plainName oXC = true := by first | (simp [plainName, overriddenIn]; done) | decide +kernel
theorem ef_IX (m : MethodId) (p0 : Int32) : entryFrame m #[(.int p0)] 1 = mkF m 0 #[.val (.int p0)] [] := by first | (simp [entryFrame, mkF, argsToLocals, Value.category]; done) | rfl
def QIX (Z : State) (p0 : Int32) (h0 : Heap) (n0 : Nat) (v : Option Value) (h : Heap) (L : List Loc) : Prop := v = some (.int 1) ∧ Fr n0 L ∧ h = h0
set_option maxRecDepth 65536 in
set_option maxHeartbeats 40000000 in
theorem rmIX (l : Launch) (Z : State) (a0 : Array Value) (hw : ∀ d ∈ tables_1, d.before a0 Z = true) (ws : List Jvm.Cond) (p0 : Int32) (h0 : Heap) (n0 : Nat) (Z0 : n0 ≤ h0.size) (hp : own_ch p0) :
    MetFree l (⟨oXC, "isXmlCharacter", "(I)Z"⟩ : MethodName) (head1 (Jvm.Cond.code (⟨oXC, "isXmlCharacter", "(I)Z"⟩ : MethodName) prog_228_method_5_code 1 (some .boolean) :: ws) (oR 0 0 0 0)) (fun a U => a = #[(.int p0)] ∧ Z.Warmed39 U.vm ∧ U.heap = h0) (fun _ _ _ _ _ => True) (fun _ U o U' => ∃ v L, o = .returned v ∧ QIX Z p0 h0 n0 v U'.heap L ∧ FrameEnd U o U' L (oR 0 0 0 0).cells (oR 0 0 0 0).slots) := by
  refine MetFree.of_bodySF (plainFor_of_name pn_IX) hisR ?_
  intro p e s m args below meth c s₁ Bd hml0 hP hK
  obtain ⟨rfl, hZ, hh⟩ := hP
  have hx := Bd.exec
  have hby := Bd.bytes
  have hml : c.maxLocals = 1 := hml0
  have hown : s.vm.findClass oXC = some m.cls := findClass_of_methodNamed Bd.named
  have hnm := (name_of_methodNamed Bd.named Bd.method).1
  have X0 : Stand p l e (oR 0 0 0 0) s m #[(.int p0)] below meth c s₁ [] 0 0 := Stand.of_body Bd
  have e0 : s₁.heap = h0 := by rw [← hh, Bd.state]; rfl
  have N0 := Fr.nil n0
  show Goes p e below (fun o U' => ∃ v L, o = .returned v ∧ QIX Z p0 h0 n0 v U'.heap L ∧ FrameEnd s o U' L (oR 0 0 0 0).cells (oR 0 0 0 0).slots) _
  refine Goes.go (fun t k => castTop (ef_IX m p0) k) ?_
  show Goes p e below _ (s₁.setTop (mkF m 0 #[.val (.int p0)] []))
  refine Goes.go (fun t => XS.iloadN X0.here hx rfl (hb hby dIX_0) rfl ) ?_
  refine Goes.go (fun t => XS.bipush X0.here hx rfl (hb hby dIX_1)) ?_
  show Goes p e below _ (s₁.setTop (mkF m 3 #[.val (.int p0)] [(.int (32 : Int32)), (.int p0)]))
  refine Goes.go (fun t => XS.icmpNo X0.here hx rfl (hb hby dIX_3) rfl (Jvm.Free.XT.ii_lt_f (by unfold own_ch at hp; simp only [Int32.lt_iff_toInt_lt, Int32.reduceToInt]; omega))) ?_
  show Goes p e below _ (s₁.setTop (mkF m 6 #[.val (.int p0)] []))
  refine Goes.go (fun t => XS.iloadN X0.here hx rfl (hb hby dIX_6) rfl ) ?_
  show Goes p e below _ (s₁.setTop (mkF m 7 #[.val (.int p0)] [(.int p0)]))
  refine Goes.go (fun t => X0.ldcI hx hown (mvT hZ (own_h hw 233 rfl)) rfl (hb hby dIX_7)) ?_
  show Goes p e below _ (s₁.setTop (mkF m 9 #[.val (.int p0)] [(.int (55295 : Int32)), (.int p0)]))
  refine Goes.go (fun t => XS.icmpYes X0.here hx rfl (pc0 := 9) (pc' := 54) rfl (hb hby dIX_9) rfl (Jvm.Free.XT.ii_le_t (by unfold own_ch at hp; simp only [Int32.lt_iff_toInt_lt, Int32.reduceToInt]; omega)) (by decide) (by decide)) ?_
  show Goes p e below _ (s₁.setTop (mkF m 54 #[.val (.int p0)] []))
  refine Goes.go (fun t => XS.iconst X0.here hx rfl (hb hby dIX_54)) ?_
  refine Goes.go (fun t => XS.goto X0.here hx rfl (pc0 := 55) (pc' := 59) rfl (hb hby dIX_55) (by decide) (by decide)) ?_
  show Goes p e below _ (s₁.setTop (mkF m 59 #[.val (.int p0)] [(.int (1 : Int32))]))
  exact Goes.out X0 (fun h => by rw [Bd.returns] at h; cases h) Bd.notSynchronized (fun fs hr => retN X0 hx (t := .boolean) Bd.returns (by simp) (hb hby dIX_59) hr) ⟨rfl, N0, e0⟩ (by decide) (by decide)
theorem dN1_0 : decode prog_176_method_7_code 0 = .ok (.aload_n 0, 1) := by decide +kernel
theorem dN1_1 : decode prog_176_method_7_code 1 = .ok (.invokeinterface 92 1, 5) := by decide +kernel
theorem dN1_6 : decode prog_176_method_7_code 6 = .ok (.ifCond .ne 5, 3) := by decide +kernel
theorem dN1_11 : decode prog_176_method_7_code 11 = .ok (.aload_n 0, 1) := by decide +kernel
theorem dN1_12 : decode prog_176_method_7_code 12 = .ok (.iconst 0, 1) := by decide +kernel
theorem dN1_13 : decode prog_176_method_7_code 13 = .ok (.invokestatic 98, 3) := by decide +kernel
theorem dN1_16 : decode prog_176_method_7_code 16 = .ok (.istore_n 1, 1) := by decide +kernel
theorem dN1_17 : decode prog_176_method_7_code 17 = .ok (.iload_n 1, 1) := by decide +kernel
theorem dN1_18 : decode prog_176_method_7_code 18 = .ok (.invokestatic 104, 3) := by decide +kernel
theorem dN1_21 : decode prog_176_method_7_code 21 = .ok (.ifCond .ne 5, 3) := by decide +kernel
theorem dN1_26 : decode prog_176_method_7_code 26 = .ok (.iload_n 1, 1) := by decide +kernel
theorem dN1_27 : decode prog_176_method_7_code 27 = .ok (.invokestatic 108, 3) := by decide +kernel
theorem dN1_30 : decode prog_176_method_7_code 30 = .ok (.istore_n 2, 1) := by decide +kernel
theorem dN1_31 : decode prog_176_method_7_code 31 = .ok (.iload_n 2, 1) := by decide +kernel
theorem dN1_32 : decode prog_176_method_7_code 32 = .ok (.aload_n 0, 1) := by decide +kernel
theorem dN1_33 : decode prog_176_method_7_code 33 = .ok (.invokeinterface 92 1, 5) := by decide +kernel
theorem dN1_38 : decode prog_176_method_7_code 38 = .ok (.if_icmp .ge 28, 3) := by decide +kernel
theorem dN1_66 : decode prog_176_method_7_code 66 = .ok (.iconst 1, 1) := by decide +kernel
theorem dN1_67 : decode prog_176_method_7_code 67 = .ok (.ireturn, 1) := by decide +kernel
theorem pn_N1 : plainName oQN = true := by first | (simp [plainName, overriddenIn]; done) | decide +kernel
theorem pdN1_0 : parseMethodDescriptor "()I" = some ⟨[], some .int⟩ := by decide +kernel
theorem pdN1_1 : parseMethodDescriptor "(Ljava/lang/CharSequence;I)I" = some ⟨[(.object "java/lang/CharSequence"), .int], some .int⟩ := by decide +kernel
theorem pdN1_2 : parseMethodDescriptor "(I)Z" = some ⟨[.int], some .boolean⟩ := by decide +kernel
theorem pdN1_3 : parseMethodDescriptor "(I)I" = some ⟨[.int], some .int⟩ := by decide +kernel
theorem ef_N1 (m : MethodId) (o0 : Addr) : entryFrame m #[(.ref o0)] 4 = mkF m 0 #[.val (.ref o0), .unset, .unset, .unset] [] := by first | (simp [entryFrame, mkF, argsToLocals, Value.category]; done) | rfl
def QN1 (Z : State) (o0 : Addr) (z : Int32) (fm : Value) (wS : Addr) (wN : Addr) (cS : Cell) (cN : Cell) (c0 : Int32) (h0 : Heap) (n0 : Nat) (v : Option Value) (h : Heap) (L : List Loc) : Prop := v = some (.int 1) ∧ Fr n0 L ∧ h = h0
set_option maxRecDepth 65536 in
set_option maxHeartbeats 40000000 in
theorem rmN1 (l : Launch) (Z : State) (a0 : Array Value) (hw : ∀ d ∈ tables_1, d.before a0 Z = true) (ws : List Jvm.Cond) (o0 : Addr) (z : Int32) (fm : Value) (wS : Addr) (wN : Addr) (cS : Cell) (cN : Cell) (c0 : Int32) (h0 : Heap) (n0 : Nat) (Z0 : n0 ≤ h0.size) (V : own_env Z h0 z fm wS wN cS cN) (S : own_s Z h0 o0 [c0]) (hn0 : own_st c0) :
    MetFree l (⟨oQN, "isNCName", "(Ljava/lang/CharSequence;)Z"⟩ : MethodName) (head1 (Jvm.Cond.code (⟨oQN, "isNCName", "(Ljava/lang/CharSequence;)Z"⟩ : MethodName) prog_176_method_7_code 4 (some .boolean) :: ws) (oR 5 0 0 68)) (fun a U => a = #[(.ref o0)] ∧ Z.Warmed39 U.vm ∧ U.heap = h0) (fun _ _ _ _ _ => True) (fun _ U o U' => ∃ v L, o = .returned v ∧ QN1 Z o0 z fm wS wN cS cN c0 h0 n0 v U'.heap L ∧ FrameEnd U o U' L (oR 5 0 0 68).cells (oR 5 0 0 68).slots) := by
  refine MetFree.of_bodySF (plainFor_of_name pn_N1) hisR ?_
  intro p e s m args below meth c s₁ Bd hml0 hP hK
  obtain ⟨rfl, hZ, hh⟩ := hP
  have hx := Bd.exec
  have hby := Bd.bytes
  have hml : c.maxLocals = 4 := hml0
  have hown : s.vm.findClass oQN = some m.cls := findClass_of_methodNamed Bd.named
  have hnm := (name_of_methodNamed Bd.named Bd.method).1
  have X0 : Stand p l e (oR 5 0 0 68) s m #[(.ref o0)] below meth c s₁ [] 0 0 := Stand.of_body Bd
  have e0 : s₁.heap = h0 := by rw [← hh, Bd.state]; rfl
  have N0 := Fr.nil n0
  show Goes p e below (fun o U' => ∃ v L, o = .returned v ∧ QN1 Z o0 z fm wS wN cS cN c0 h0 n0 v U'.heap L ∧ FrameEnd s o U' L (oR 5 0 0 68).cells (oR 5 0 0 68).slots) _
  refine Goes.go (fun t k => castTop (ef_N1 m o0) k) ?_
  obtain ⟨E_s, F_c, ⟨t, kb, F_v, A_v⟩, hcs, hl⟩ := id S
  obtain ⟨S_z, hz, S_f, rf, S_S, A_S, Sz_S, at_S, S_N, A_N, Sz_N, at_N⟩ := id V
  show Goes p e below _ (s₁.setTop (mkF m 0 #[.val (.ref o0), .unset, .unset, .unset] []))
  refine Goes.go (fun t => XS.aloadN X0.here hx rfl (hb hby dN1_0) rfl rfl ) ?_
  show Goes p e below _ (s₁.setTop (mkF m 1 #[.val (.ref o0), .unset, .unset, .unset] [(.ref o0)]))
  obtain ⟨cq1, kq1, q1a, q1b, q1c⟩ := isOf hZ e0 E_s
  obtain ⟨_, _, ⟨T1, L1, k1, n1⟩, -, X1, ⟨Lc1, hQ1, l1, y1, z1⟩, st1⟩ := X0.interfaceBack hx (xi := (⟨"java/lang/CharSequence", "length", "()I"⟩ : MethodName)) (y := (⟨"java/lang/String", "length", "()I"⟩ : MethodName)) hown (mvT hZ (own_h hw 106 rfl)) (mvT hZ (own_h hw 107 rfl)) (mvT hZ (own_h hw 108 rfl)) (mvT hZ (own_h hw 109 rfl)) (mvT hZ (own_h hw 110 rfl)) (mvT hZ (own_h hw 111 rfl)) (mvT hZ (own_h hw 112 rfl)) (mvT hZ (own_h hw 113 rfl)) (by decide) (StrChars.Road.lenW (W := 0) hZ (fun d hd => hw d (own_wLen d hd)) (kI := 4) (own_h hw 13 rfl) E_s F_v F_c A_v (own_cod hcs) (own_up hcs) S_z hz hl (by decide) (by decide)) q1a q1b q1c (g := (mkF m 1 #[.val (.ref o0), .unset, .unset, .unset] [(.ref o0)])) rfl (by rw [hml]; rfl) (Steps.refl _) (argsL := []) (rest := []) (lenOf pdN1_0 rfl) rfl (by show 2 * 0 + _ ≤ _; exact Nat.le_of_eq rfl) (hb hby dN1_1) (fun _ _ => ⟨rfl, e0, (by decide : 0 + 0 ≤ _), (by decide : 0 + 0 ≤ _)⟩)
  dsimp only [Pt.U, Pt.locs, Pt.cells, Pt.slots] at X1 l1 y1 z1 st1 hQ1
  subst l1 y1 z1
  obtain ⟨rfl, rfl, e1q⟩ := hQ1
  have N1q : Fr n0 ([] : List Loc) := Fr.nil n0
  have N1 := Fr.app N0 N1q
  refine Goes.via st1 ?_
  show Goes p e below _ (T1.setTop (mkF m 6 #[.val (.ref o0), .unset, .unset, .unset] [(.int (1 : Int32))]))
  refine Goes.go (fun t => XS.ifYes X1.here hx rfl (pc0 := 6) (pc' := 11) rfl (hb hby dN1_6) rfl (Jvm.Free.XT.i0_ne_t (by decide)) (by decide) (by decide)) ?_
  show Goes p e below _ (T1.setTop (mkF m 11 #[.val (.ref o0), .unset, .unset, .unset] []))
  refine Goes.go (fun t => XS.aloadN X1.here hx rfl (hb hby dN1_11) rfl rfl ) ?_
  refine Goes.go (fun t => XS.iconst X1.here hx rfl (hb hby dN1_12)) ?_
  show Goes p e below _ (T1.setTop (mkF m 13 #[.val (.ref o0), .unset, .unset, .unset] [(.int (0 : Int32)), (.ref o0)]))
  obtain ⟨_, _, ⟨T2, L2, k2, n2⟩, -, X2, ⟨Lc2, hQ2, l2, y2, z2⟩, st2⟩ := Jvm.LawKit.callS X1 hx (y := (⟨"java/lang/Character", "codePointAt", "(Ljava/lang/CharSequence;I)I"⟩ : MethodName)) hown (mvT hZ (own_h hw 120 rfl)) (mvT hZ (own_h hw 121 rfl)) (mvT hZ (own_h hw 122 rfl)) (mvT hZ (own_h hw 123 rfl)) (by decide) (backOf (W := 0) (rmKP l Z a0 hw [] o0 (0 : Int32) z fm [c0] 0 h0 n0 Z0 S S_z hz S_f rf (Nat.le_of_ble_eq_true rfl) rfl) hZ (own_h hw 123 rfl) (own_h hw 122 rfl) (by decide) (by decide)) (g := (mkF m 13 #[.val (.ref o0), .unset, .unset, .unset] [(.int (0 : Int32)), (.ref o0)])) rfl (by rw [hml]; rfl) (argsL := [(.ref o0), (.int (0 : Int32))]) (rest := []) (lenOf pdN1_1 rfl) rfl (by show 2 * 0 + _ ≤ _; exact Nat.le_of_eq rfl) (hb hby dN1_13) (fun _ _ => ⟨rfl, e1q, (by decide : 0 + 0 ≤ _), (by decide : 0 + 0 ≤ _)⟩)
  dsimp only [Pt.U, Pt.locs, Pt.cells, Pt.slots] at X2 l2 y2 z2 st2 hQ2
  subst l2 y2 z2
  obtain ⟨rfl, N2q, e2q⟩ := hQ2
  have N2 := Fr.app N1 N2q
  refine Goes.go st2 ?_
  show Goes p e below _ (T2.setTop (mkF m 16 #[.val (.ref o0), .unset, .unset, .unset] [(.int c0)]))
  refine Goes.go (fun t => XS.istoreN X2.here hx rfl (hb hby dN1_16) rfl (l' := #[.val (.ref o0), .val (.int c0), .unset, .unset]) rfl) ?_
  refine Goes.go (fun t => XS.iloadN X2.here hx rfl (hb hby dN1_17) rfl ) ?_
  show Goes p e below _ (T2.setTop (mkF m 18 #[.val (.ref o0), .val (.int c0), .unset, .unset] [(.int c0)]))
  obtain ⟨_, _, ⟨T3, L3, k3, n3⟩, -, X3, ⟨Lc3, hQ3, l3, y3, z3⟩, st3⟩ := Jvm.LawKit.callS X2 hx (y := (⟨oXC, "isNCNameStartChar", "(I)Z"⟩ : MethodName)) hown (mvT hZ (own_h hw 153 rfl)) (mvT hZ (own_h hw 154 rfl)) (mvT hZ (own_h hw 155 rfl)) (mvT hZ (own_h hw 156 rfl)) (by decide) (backOf (W := 0) (rmSC l Z a0 hw [] c0 wS cS h0 n0 Z0 S_S A_S Sz_S (at_S _ hn0) hn0.bd.1 hn0.bd.2) hZ (own_h hw 156 rfl) (own_h hw 155 rfl) (by decide) (by decide)) (g := (mkF m 18 #[.val (.ref o0), .val (.int c0), .unset, .unset] [(.int c0)])) rfl (by rw [hml]; rfl) (argsL := [(.int c0)]) (rest := []) (lenOf pdN1_2 rfl) rfl (by show 2 * 0 + _ ≤ _; exact Nat.le_of_eq rfl) (hb hby dN1_18) (fun _ _ => ⟨rfl, e2q, (by decide : 0 + 0 ≤ _), (by decide : 0 + 0 ≤ _)⟩)
  dsimp only [Pt.U, Pt.locs, Pt.cells, Pt.slots] at X3 l3 y3 z3 st3 hQ3
  subst l3 y3 z3
  obtain ⟨rfl, N3q, e3q⟩ := hQ3
  have N3 := Fr.app N2 N3q
  refine Goes.go st3 ?_
  show Goes p e below _ (T3.setTop (mkF m 21 #[.val (.ref o0), .val (.int c0), .unset, .unset] [(.int (1 : Int32))]))
  refine Goes.go (fun t => XS.ifYes X3.here hx rfl (pc0 := 21) (pc' := 26) rfl (hb hby dN1_21) rfl (Jvm.Free.XT.i0_ne_t (by decide)) (by decide) (by decide)) ?_
  show Goes p e below _ (T3.setTop (mkF m 26 #[.val (.ref o0), .val (.int c0), .unset, .unset] []))
  refine Goes.go (fun t => XS.iloadN X3.here hx rfl (hb hby dN1_26) rfl ) ?_
  show Goes p e below _ (T3.setTop (mkF m 27 #[.val (.ref o0), .val (.int c0), .unset, .unset] [(.int c0)]))
  obtain ⟨_, _, ⟨T4, L4, k4, n4⟩, -, X4, ⟨Lc4, hQ4, l4, y4, z4⟩, st4⟩ := Jvm.LawKit.callS X3 hx (y := (⟨"java/lang/Character", "charCount", "(I)I"⟩ : MethodName)) hown (mvT hZ (own_h hw 159 rfl)) (mvT hZ (own_h hw 160 rfl)) (mvT hZ (own_h hw 122 rfl)) (mvT hZ (own_h hw 161 rfl)) (by decide) (backOf (W := 0) (rmCC l Z a0 hw [] c0 h0 n0 Z0 (own_small hn0.ch.bd (by decide))) hZ (own_h hw 161 rfl) (own_h hw 122 rfl) (by decide) (by decide)) (g := (mkF m 27 #[.val (.ref o0), .val (.int c0), .unset, .unset] [(.int c0)])) rfl (by rw [hml]; rfl) (argsL := [(.int c0)]) (rest := []) (lenOf pdN1_3 rfl) rfl (by show 2 * 0 + _ ≤ _; exact Nat.le_of_eq rfl) (hb hby dN1_27) (fun _ _ => ⟨rfl, e3q, (by decide : 0 + 0 ≤ _), (by decide : 0 + 0 ≤ _)⟩)
  dsimp only [Pt.U, Pt.locs, Pt.cells, Pt.slots] at X4 l4 y4 z4 st4 hQ4
  subst l4 y4 z4
  obtain ⟨rfl, N4q, e4q⟩ := hQ4
  have N4 := Fr.app N3 N4q
  refine Goes.go st4 ?_
  show Goes p e below _ (T4.setTop (mkF m 30 #[.val (.ref o0), .val (.int c0), .unset, .unset] [(.int (1 : Int32))]))
  refine Goes.go (fun t => XS.istoreN X4.here hx rfl (hb hby dN1_30) rfl (l' := #[.val (.ref o0), .val (.int c0), .val (.int (1 : Int32)), .unset]) rfl) ?_
  refine Goes.go (fun t => XS.iloadN X4.here hx rfl (hb hby dN1_31) rfl ) ?_
  refine Goes.go (fun t => XS.aloadN X4.here hx rfl (hb hby dN1_32) rfl rfl ) ?_
  show Goes p e below _ (T4.setTop (mkF m 33 #[.val (.ref o0), .val (.int c0), .val (.int (1 : Int32)), .unset] [(.ref o0), (.int (1 : Int32))]))
  obtain ⟨cq5, kq5, q5a, q5b, q5c⟩ := isOf hZ e4q E_s
  obtain ⟨_, _, ⟨T5, L5, k5, n5⟩, -, X5, ⟨Lc5, hQ5, l5, y5, z5⟩, st5⟩ := X4.interfaceBack hx (xi := (⟨"java/lang/CharSequence", "length", "()I"⟩ : MethodName)) (y := (⟨"java/lang/String", "length", "()I"⟩ : MethodName)) hown (mvT hZ (own_h hw 106 rfl)) (mvT hZ (own_h hw 107 rfl)) (mvT hZ (own_h hw 108 rfl)) (mvT hZ (own_h hw 109 rfl)) (mvT hZ (own_h hw 110 rfl)) (mvT hZ (own_h hw 111 rfl)) (mvT hZ (own_h hw 112 rfl)) (mvT hZ (own_h hw 113 rfl)) (by decide) (StrChars.Road.lenW (W := 1) hZ (fun d hd => hw d (own_wLen d hd)) (kI := 4) (own_h hw 13 rfl) E_s F_v F_c A_v (own_cod hcs) (own_up hcs) S_z hz hl (by decide) (by decide)) q5a q5b q5c (g := (mkF m 33 #[.val (.ref o0), .val (.int c0), .val (.int (1 : Int32)), .unset] [(.ref o0), (.int (1 : Int32))])) rfl (by rw [hml]; rfl) (Steps.refl _) (argsL := []) (rest := [(.int (1 : Int32))]) (lenOf pdN1_0 rfl) rfl (by show 2 * 0 + _ ≤ _; exact Nat.le_of_eq rfl) (hb hby dN1_33) (fun _ _ => ⟨rfl, e4q, (by decide : 0 + 0 ≤ _), (by decide : 0 + 0 ≤ _)⟩)
  dsimp only [Pt.U, Pt.locs, Pt.cells, Pt.slots] at X5 l5 y5 z5 st5 hQ5
  subst l5 y5 z5
  obtain ⟨rfl, rfl, e5q⟩ := hQ5
  have N5q : Fr n0 ([] : List Loc) := Fr.nil n0
  have N5 := Fr.app N4 N5q
  refine Goes.via st5 ?_
  show Goes p e below _ (T5.setTop (mkF m 38 #[.val (.ref o0), .val (.int c0), .val (.int (1 : Int32)), .unset] [(.int (1 : Int32)), (.int (1 : Int32))]))
  refine Goes.go (fun t => XS.icmpYes X5.here hx rfl (pc0 := 38) (pc' := 66) rfl (hb hby dN1_38) rfl (Jvm.Free.XT.ii_ge_t (by decide)) (by decide) (by decide)) ?_
  show Goes p e below _ (T5.setTop (mkF m 66 #[.val (.ref o0), .val (.int c0), .val (.int (1 : Int32)), .unset] []))
  refine Goes.go (fun t => XS.iconst X5.here hx rfl (hb hby dN1_66)) ?_
  show Goes p e below _ (T5.setTop (mkF m 67 #[.val (.ref o0), .val (.int c0), .val (.int (1 : Int32)), .unset] [(.int (1 : Int32))]))
  exact Goes.out X5 (fun h => by rw [Bd.returns] at h; cases h) Bd.notSynchronized (fun fs hr => retN X5 hx (t := .boolean) Bd.returns (by simp) (hb hby dN1_67) hr) ⟨rfl, N5, e5q⟩ (by decide) (by decide)
theorem dN2_0 : decode prog_176_method_7_code 0 = .ok (.aload_n 0, 1) := by decide +kernel
theorem dN2_1 : decode prog_176_method_7_code 1 = .ok (.invokeinterface 92 1, 5) := by decide +kernel
theorem dN2_6 : decode prog_176_method_7_code 6 = .ok (.ifCond .ne 5, 3) := by decide +kernel
theorem dN2_11 : decode prog_176_method_7_code 11 = .ok (.aload_n 0, 1) := by decide +kernel
theorem dN2_12 : decode prog_176_method_7_code 12 = .ok (.iconst 0, 1) := by decide +kernel
theorem dN2_13 : decode prog_176_method_7_code 13 = .ok (.invokestatic 98, 3) := by decide +kernel
theorem dN2_16 : decode prog_176_method_7_code 16 = .ok (.istore_n 1, 1) := by decide +kernel
theorem dN2_17 : decode prog_176_method_7_code 17 = .ok (.iload_n 1, 1) := by decide +kernel
theorem dN2_18 : decode prog_176_method_7_code 18 = .ok (.invokestatic 104, 3) := by decide +kernel
theorem dN2_21 : decode prog_176_method_7_code 21 = .ok (.ifCond .ne 5, 3) := by decide +kernel
theorem dN2_26 : decode prog_176_method_7_code 26 = .ok (.iload_n 1, 1) := by decide +kernel
theorem dN2_27 : decode prog_176_method_7_code 27 = .ok (.invokestatic 108, 3) := by decide +kernel
theorem dN2_30 : decode prog_176_method_7_code 30 = .ok (.istore_n 2, 1) := by decide +kernel
theorem dN2_31 : decode prog_176_method_7_code 31 = .ok (.iload_n 2, 1) := by decide +kernel
theorem dN2_32 : decode prog_176_method_7_code 32 = .ok (.aload_n 0, 1) := by decide +kernel
theorem dN2_33 : decode prog_176_method_7_code 33 = .ok (.invokeinterface 92 1, 5) := by decide +kernel
theorem dN2_38 : decode prog_176_method_7_code 38 = .ok (.if_icmp .ge 28, 3) := by decide +kernel
theorem dN2_41 : decode prog_176_method_7_code 41 = .ok (.aload_n 0, 1) := by decide +kernel
theorem dN2_42 : decode prog_176_method_7_code 42 = .ok (.iload_n 2, 1) := by decide +kernel
theorem dN2_43 : decode prog_176_method_7_code 43 = .ok (.invokestatic 98, 3) := by decide +kernel
theorem dN2_46 : decode prog_176_method_7_code 46 = .ok (.istore_n 3, 1) := by decide +kernel
theorem dN2_47 : decode prog_176_method_7_code 47 = .ok (.iload_n 3, 1) := by decide +kernel
theorem dN2_48 : decode prog_176_method_7_code 48 = .ok (.invokestatic 111, 3) := by decide +kernel
theorem dN2_51 : decode prog_176_method_7_code 51 = .ok (.ifCond .ne 5, 3) := by decide +kernel
theorem dN2_56 : decode prog_176_method_7_code 56 = .ok (.iload_n 2, 1) := by decide +kernel
theorem dN2_57 : decode prog_176_method_7_code 57 = .ok (.iload_n 3, 1) := by decide +kernel
theorem dN2_58 : decode prog_176_method_7_code 58 = .ok (.invokestatic 108, 3) := by decide +kernel
theorem dN2_61 : decode prog_176_method_7_code 61 = .ok (.iadd, 1) := by decide +kernel
theorem dN2_62 : decode prog_176_method_7_code 62 = .ok (.istore_n 2, 1) := by decide +kernel
theorem dN2_63 : decode prog_176_method_7_code 63 = .ok (.goto (-32), 3) := by decide +kernel
theorem dN2_66 : decode prog_176_method_7_code 66 = .ok (.iconst 1, 1) := by decide +kernel
theorem dN2_67 : decode prog_176_method_7_code 67 = .ok (.ireturn, 1) := by decide +kernel
theorem pn_N2 : plainName oQN = true := by first | (simp [plainName, overriddenIn]; done) | decide +kernel
theorem pdN2_0 : parseMethodDescriptor "()I" = some ⟨[], some .int⟩ := by decide +kernel
theorem pdN2_1 : parseMethodDescriptor "(Ljava/lang/CharSequence;I)I" = some ⟨[(.object "java/lang/CharSequence"), .int], some .int⟩ := by decide +kernel
theorem pdN2_2 : parseMethodDescriptor "(I)Z" = some ⟨[.int], some .boolean⟩ := by decide +kernel
theorem pdN2_3 : parseMethodDescriptor "(I)I" = some ⟨[.int], some .int⟩ := by decide +kernel
theorem ef_N2 (m : MethodId) (o0 : Addr) : entryFrame m #[(.ref o0)] 4 = mkF m 0 #[.val (.ref o0), .unset, .unset, .unset] [] := by first | (simp [entryFrame, mkF, argsToLocals, Value.category]; done) | rfl
def QN2 (Z : State) (o0 : Addr) (z : Int32) (fm : Value) (wS : Addr) (wN : Addr) (cS : Cell) (cN : Cell) (c0 : Int32) (c1 : Int32) (h0 : Heap) (n0 : Nat) (v : Option Value) (h : Heap) (L : List Loc) : Prop := v = some (.int 1) ∧ Fr n0 L ∧ h = h0
set_option maxRecDepth 65536 in
set_option maxHeartbeats 40000000 in
theorem rmN2 (l : Launch) (Z : State) (a0 : Array Value) (hw : ∀ d ∈ tables_1, d.before a0 Z = true) (ws : List Jvm.Cond) (o0 : Addr) (z : Int32) (fm : Value) (wS : Addr) (wN : Addr) (cS : Cell) (cN : Cell) (c0 : Int32) (c1 : Int32) (h0 : Heap) (n0 : Nat) (Z0 : n0 ≤ h0.size) (V : own_env Z h0 z fm wS wN cS cN) (S : own_s Z h0 o0 [c0, c1]) (hn0 : own_st c0) (hn1 : own_nm c1) :
    MetFree l (⟨oQN, "isNCName", "(Ljava/lang/CharSequence;)Z"⟩ : MethodName) (head1 (Jvm.Cond.code (⟨oQN, "isNCName", "(Ljava/lang/CharSequence;)Z"⟩ : MethodName) prog_176_method_7_code 4 (some .boolean) :: ws) (oR 5 0 0 68)) (fun a U => a = #[(.ref o0)] ∧ Z.Warmed39 U.vm ∧ U.heap = h0) (fun _ _ _ _ _ => True) (fun _ U o U' => ∃ v L, o = .returned v ∧ QN2 Z o0 z fm wS wN cS cN c0 c1 h0 n0 v U'.heap L ∧ FrameEnd U o U' L (oR 5 0 0 68).cells (oR 5 0 0 68).slots) := by
  refine MetFree.of_bodySF (plainFor_of_name pn_N2) hisR ?_
  intro p e s m args below meth c s₁ Bd hml0 hP hK
  obtain ⟨rfl, hZ, hh⟩ := hP
  have hx := Bd.exec
  have hby := Bd.bytes
  have hml : c.maxLocals = 4 := hml0
  have hown : s.vm.findClass oQN = some m.cls := findClass_of_methodNamed Bd.named
  have hnm := (name_of_methodNamed Bd.named Bd.method).1
  have X0 : Stand p l e (oR 5 0 0 68) s m #[(.ref o0)] below meth c s₁ [] 0 0 := Stand.of_body Bd
  have e0 : s₁.heap = h0 := by rw [← hh, Bd.state]; rfl
  have N0 := Fr.nil n0
  show Goes p e below (fun o U' => ∃ v L, o = .returned v ∧ QN2 Z o0 z fm wS wN cS cN c0 c1 h0 n0 v U'.heap L ∧ FrameEnd s o U' L (oR 5 0 0 68).cells (oR 5 0 0 68).slots) _
  refine Goes.go (fun t k => castTop (ef_N2 m o0) k) ?_
  obtain ⟨E_s, F_c, ⟨t, kb, F_v, A_v⟩, hcs, hl⟩ := id S
  obtain ⟨S_z, hz, S_f, rf, S_S, A_S, Sz_S, at_S, S_N, A_N, Sz_N, at_N⟩ := id V
  show Goes p e below _ (s₁.setTop (mkF m 0 #[.val (.ref o0), .unset, .unset, .unset] []))
  refine Goes.go (fun t => XS.aloadN X0.here hx rfl (hb hby dN2_0) rfl rfl ) ?_
  show Goes p e below _ (s₁.setTop (mkF m 1 #[.val (.ref o0), .unset, .unset, .unset] [(.ref o0)]))
  obtain ⟨cq1, kq1, q1a, q1b, q1c⟩ := isOf hZ e0 E_s
  obtain ⟨_, _, ⟨T1, L1, k1, n1⟩, -, X1, ⟨Lc1, hQ1, l1, y1, z1⟩, st1⟩ := X0.interfaceBack hx (xi := (⟨"java/lang/CharSequence", "length", "()I"⟩ : MethodName)) (y := (⟨"java/lang/String", "length", "()I"⟩ : MethodName)) hown (mvT hZ (own_h hw 106 rfl)) (mvT hZ (own_h hw 107 rfl)) (mvT hZ (own_h hw 108 rfl)) (mvT hZ (own_h hw 109 rfl)) (mvT hZ (own_h hw 110 rfl)) (mvT hZ (own_h hw 111 rfl)) (mvT hZ (own_h hw 112 rfl)) (mvT hZ (own_h hw 113 rfl)) (by decide) (StrChars.Road.lenW (W := 0) hZ (fun d hd => hw d (own_wLen d hd)) (kI := 4) (own_h hw 13 rfl) E_s F_v F_c A_v (own_cod hcs) (own_up hcs) S_z hz hl (by decide) (by decide)) q1a q1b q1c (g := (mkF m 1 #[.val (.ref o0), .unset, .unset, .unset] [(.ref o0)])) rfl (by rw [hml]; rfl) (Steps.refl _) (argsL := []) (rest := []) (lenOf pdN2_0 rfl) rfl (by show 2 * 0 + _ ≤ _; exact Nat.le_of_eq rfl) (hb hby dN2_1) (fun _ _ => ⟨rfl, e0, (by decide : 0 + 0 ≤ _), (by decide : 0 + 0 ≤ _)⟩)
  dsimp only [Pt.U, Pt.locs, Pt.cells, Pt.slots] at X1 l1 y1 z1 st1 hQ1
  subst l1 y1 z1
  obtain ⟨rfl, rfl, e1q⟩ := hQ1
  have N1q : Fr n0 ([] : List Loc) := Fr.nil n0
  have N1 := Fr.app N0 N1q
  refine Goes.via st1 ?_
  show Goes p e below _ (T1.setTop (mkF m 6 #[.val (.ref o0), .unset, .unset, .unset] [(.int (2 : Int32))]))
  refine Goes.go (fun t => XS.ifYes X1.here hx rfl (pc0 := 6) (pc' := 11) rfl (hb hby dN2_6) rfl (Jvm.Free.XT.i0_ne_t (by decide)) (by decide) (by decide)) ?_
  show Goes p e below _ (T1.setTop (mkF m 11 #[.val (.ref o0), .unset, .unset, .unset] []))
  refine Goes.go (fun t => XS.aloadN X1.here hx rfl (hb hby dN2_11) rfl rfl ) ?_
  refine Goes.go (fun t => XS.iconst X1.here hx rfl (hb hby dN2_12)) ?_
  show Goes p e below _ (T1.setTop (mkF m 13 #[.val (.ref o0), .unset, .unset, .unset] [(.int (0 : Int32)), (.ref o0)]))
  obtain ⟨_, _, ⟨T2, L2, k2, n2⟩, -, X2, ⟨Lc2, hQ2, l2, y2, z2⟩, st2⟩ := Jvm.LawKit.callS X1 hx (y := (⟨"java/lang/Character", "codePointAt", "(Ljava/lang/CharSequence;I)I"⟩ : MethodName)) hown (mvT hZ (own_h hw 120 rfl)) (mvT hZ (own_h hw 121 rfl)) (mvT hZ (own_h hw 122 rfl)) (mvT hZ (own_h hw 123 rfl)) (by decide) (backOf (W := 0) (rmKP l Z a0 hw [] o0 (0 : Int32) z fm [c0, c1] 0 h0 n0 Z0 S S_z hz S_f rf (Nat.le_of_ble_eq_true rfl) rfl) hZ (own_h hw 123 rfl) (own_h hw 122 rfl) (by decide) (by decide)) (g := (mkF m 13 #[.val (.ref o0), .unset, .unset, .unset] [(.int (0 : Int32)), (.ref o0)])) rfl (by rw [hml]; rfl) (argsL := [(.ref o0), (.int (0 : Int32))]) (rest := []) (lenOf pdN2_1 rfl) rfl (by show 2 * 0 + _ ≤ _; exact Nat.le_of_eq rfl) (hb hby dN2_13) (fun _ _ => ⟨rfl, e1q, (by decide : 0 + 0 ≤ _), (by decide : 0 + 0 ≤ _)⟩)
  dsimp only [Pt.U, Pt.locs, Pt.cells, Pt.slots] at X2 l2 y2 z2 st2 hQ2
  subst l2 y2 z2
  obtain ⟨rfl, N2q, e2q⟩ := hQ2
  have N2 := Fr.app N1 N2q
  refine Goes.go st2 ?_
  show Goes p e below _ (T2.setTop (mkF m 16 #[.val (.ref o0), .unset, .unset, .unset] [(.int c0)]))
  refine Goes.go (fun t => XS.istoreN X2.here hx rfl (hb hby dN2_16) rfl (l' := #[.val (.ref o0), .val (.int c0), .unset, .unset]) rfl) ?_
  refine Goes.go (fun t => XS.iloadN X2.here hx rfl (hb hby dN2_17) rfl ) ?_
  show Goes p e below _ (T2.setTop (mkF m 18 #[.val (.ref o0), .val (.int c0), .unset, .unset] [(.int c0)]))
  obtain ⟨_, _, ⟨T3, L3, k3, n3⟩, -, X3, ⟨Lc3, hQ3, l3, y3, z3⟩, st3⟩ := Jvm.LawKit.callS X2 hx (y := (⟨oXC, "isNCNameStartChar", "(I)Z"⟩ : MethodName)) hown (mvT hZ (own_h hw 153 rfl)) (mvT hZ (own_h hw 154 rfl)) (mvT hZ (own_h hw 155 rfl)) (mvT hZ (own_h hw 156 rfl)) (by decide) (backOf (W := 0) (rmSC l Z a0 hw [] c0 wS cS h0 n0 Z0 S_S A_S Sz_S (at_S _ hn0) hn0.bd.1 hn0.bd.2) hZ (own_h hw 156 rfl) (own_h hw 155 rfl) (by decide) (by decide)) (g := (mkF m 18 #[.val (.ref o0), .val (.int c0), .unset, .unset] [(.int c0)])) rfl (by rw [hml]; rfl) (argsL := [(.int c0)]) (rest := []) (lenOf pdN2_2 rfl) rfl (by show 2 * 0 + _ ≤ _; exact Nat.le_of_eq rfl) (hb hby dN2_18) (fun _ _ => ⟨rfl, e2q, (by decide : 0 + 0 ≤ _), (by decide : 0 + 0 ≤ _)⟩)
  dsimp only [Pt.U, Pt.locs, Pt.cells, Pt.slots] at X3 l3 y3 z3 st3 hQ3
  subst l3 y3 z3
  obtain ⟨rfl, N3q, e3q⟩ := hQ3
  have N3 := Fr.app N2 N3q
  refine Goes.go st3 ?_
  show Goes p e below _ (T3.setTop (mkF m 21 #[.val (.ref o0), .val (.int c0), .unset, .unset] [(.int (1 : Int32))]))
  refine Goes.go (fun t => XS.ifYes X3.here hx rfl (pc0 := 21) (pc' := 26) rfl (hb hby dN2_21) rfl (Jvm.Free.XT.i0_ne_t (by decide)) (by decide) (by decide)) ?_
  show Goes p e below _ (T3.setTop (mkF m 26 #[.val (.ref o0), .val (.int c0), .unset, .unset] []))
  refine Goes.go (fun t => XS.iloadN X3.here hx rfl (hb hby dN2_26) rfl ) ?_
  show Goes p e below _ (T3.setTop (mkF m 27 #[.val (.ref o0), .val (.int c0), .unset, .unset] [(.int c0)]))
  obtain ⟨_, _, ⟨T4, L4, k4, n4⟩, -, X4, ⟨Lc4, hQ4, l4, y4, z4⟩, st4⟩ := Jvm.LawKit.callS X3 hx (y := (⟨"java/lang/Character", "charCount", "(I)I"⟩ : MethodName)) hown (mvT hZ (own_h hw 159 rfl)) (mvT hZ (own_h hw 160 rfl)) (mvT hZ (own_h hw 122 rfl)) (mvT hZ (own_h hw 161 rfl)) (by decide) (backOf (W := 0) (rmCC l Z a0 hw [] c0 h0 n0 Z0 (own_small hn0.ch.bd (by decide))) hZ (own_h hw 161 rfl) (own_h hw 122 rfl) (by decide) (by decide)) (g := (mkF m 27 #[.val (.ref o0), .val (.int c0), .unset, .unset] [(.int c0)])) rfl (by rw [hml]; rfl) (argsL := [(.int c0)]) (rest := []) (lenOf pdN2_3 rfl) rfl (by show 2 * 0 + _ ≤ _; exact Nat.le_of_eq rfl) (hb hby dN2_27) (fun _ _ => ⟨rfl, e3q, (by decide : 0 + 0 ≤ _), (by decide : 0 + 0 ≤ _)⟩)
  dsimp only [Pt.U, Pt.locs, Pt.cells, Pt.slots] at X4 l4 y4 z4 st4 hQ4
  subst l4 y4 z4
  obtain ⟨rfl, N4q, e4q⟩ := hQ4
  have N4 := Fr.app N3 N4q
  refine Goes.go st4 ?_
  show Goes p e below _ (T4.setTop (mkF m 30 #[.val (.ref o0), .val (.int c0), .unset, .unset] [(.int (1 : Int32))]))
  refine Goes.go (fun t => XS.istoreN X4.here hx rfl (hb hby dN2_30) rfl (l' := #[.val (.ref o0), .val (.int c0), .val (.int (1 : Int32)), .unset]) rfl) ?_
  refine Goes.go (fun t => XS.iloadN X4.here hx rfl (hb hby dN2_31) rfl ) ?_
  refine Goes.go (fun t => XS.aloadN X4.here hx rfl (hb hby dN2_32) rfl rfl ) ?_
  show Goes p e below _ (T4.setTop (mkF m 33 #[.val (.ref o0), .val (.int c0), .val (.int (1 : Int32)), .unset] [(.ref o0), (.int (1 : Int32))]))
  obtain ⟨cq5, kq5, q5a, q5b, q5c⟩ := isOf hZ e4q E_s
  obtain ⟨_, _, ⟨T5, L5, k5, n5⟩, -, X5, ⟨Lc5, hQ5, l5, y5, z5⟩, st5⟩ := X4.interfaceBack hx (xi := (⟨"java/lang/CharSequence", "length", "()I"⟩ : MethodName)) (y := (⟨"java/lang/String", "length", "()I"⟩ : MethodName)) hown (mvT hZ (own_h hw 106 rfl)) (mvT hZ (own_h hw 107 rfl)) (mvT hZ (own_h hw 108 rfl)) (mvT hZ (own_h hw 109 rfl)) (mvT hZ (own_h hw 110 rfl)) (mvT hZ (own_h hw 111 rfl)) (mvT hZ (own_h hw 112 rfl)) (mvT hZ (own_h hw 113 rfl)) (by decide) (StrChars.Road.lenW (W := 1) hZ (fun d hd => hw d (own_wLen d hd)) (kI := 4) (own_h hw 13 rfl) E_s F_v F_c A_v (own_cod hcs) (own_up hcs) S_z hz hl (by decide) (by decide)) q5a q5b q5c (g := (mkF m 33 #[.val (.ref o0), .val (.int c0), .val (.int (1 : Int32)), .unset] [(.ref o0), (.int (1 : Int32))])) rfl (by rw [hml]; rfl) (Steps.refl _) (argsL := []) (rest := [(.int (1 : Int32))]) (lenOf pdN2_0 rfl) rfl (by show 2 * 0 + _ ≤ _; exact Nat.le_of_eq rfl) (hb hby dN2_33) (fun _ _ => ⟨rfl, e4q, (by decide : 0 + 0 ≤ _), (by decide : 0 + 0 ≤ _)⟩)
  dsimp only [Pt.U, Pt.locs, Pt.cells, Pt.slots] at X5 l5 y5 z5 st5 hQ5
  subst l5 y5 z5
  obtain ⟨rfl, rfl, e5q⟩ := hQ5
  have N5q : Fr n0 ([] : List Loc) := Fr.nil n0
  have N5 := Fr.app N4 N5q
  refine Goes.via st5 ?_
  show Goes p e below _ (T5.setTop (mkF m 38 #[.val (.ref o0), .val (.int c0), .val (.int (1 : Int32)), .unset] [(.int (2 : Int32)), (.int (1 : Int32))]))
  refine Goes.go (fun t => XS.icmpNo X5.here hx rfl (hb hby dN2_38) rfl (Jvm.Free.XT.ii_ge_f (by decide))) ?_
  show Goes p e below _ (T5.setTop (mkF m 41 #[.val (.ref o0), .val (.int c0), .val (.int (1 : Int32)), .unset] []))
  refine Goes.go (fun t => XS.aloadN X5.here hx rfl (hb hby dN2_41) rfl rfl ) ?_
  refine Goes.go (fun t => XS.iloadN X5.here hx rfl (hb hby dN2_42) rfl ) ?_
  show Goes p e below _ (T5.setTop (mkF m 43 #[.val (.ref o0), .val (.int c0), .val (.int (1 : Int32)), .unset] [(.int (1 : Int32)), (.ref o0)]))
  obtain ⟨_, _, ⟨T6, L6, k6, n6⟩, -, X6, ⟨Lc6, hQ6, l6, y6, z6⟩, st6⟩ := Jvm.LawKit.callS X5 hx (y := (⟨"java/lang/Character", "codePointAt", "(Ljava/lang/CharSequence;I)I"⟩ : MethodName)) hown (mvT hZ (own_h hw 120 rfl)) (mvT hZ (own_h hw 121 rfl)) (mvT hZ (own_h hw 122 rfl)) (mvT hZ (own_h hw 123 rfl)) (by decide) (backOf (W := 0) (rmKP l Z a0 hw [] o0 (1 : Int32) z fm [c0, c1] 1 h0 n0 Z0 S S_z hz S_f rf (Nat.le_of_ble_eq_true rfl) rfl) hZ (own_h hw 123 rfl) (own_h hw 122 rfl) (by decide) (by decide)) (g := (mkF m 43 #[.val (.ref o0), .val (.int c0), .val (.int (1 : Int32)), .unset] [(.int (1 : Int32)), (.ref o0)])) rfl (by rw [hml]; rfl) (argsL := [(.ref o0), (.int (1 : Int32))]) (rest := []) (lenOf pdN2_1 rfl) rfl (by show 2 * 0 + _ ≤ _; exact Nat.le_of_eq rfl) (hb hby dN2_43) (fun _ _ => ⟨rfl, e5q, (by decide : 0 + 0 ≤ _), (by decide : 0 + 0 ≤ _)⟩)
  dsimp only [Pt.U, Pt.locs, Pt.cells, Pt.slots] at X6 l6 y6 z6 st6 hQ6
  subst l6 y6 z6
  obtain ⟨rfl, N6q, e6q⟩ := hQ6
  have N6 := Fr.app N5 N6q
  refine Goes.go st6 ?_
  show Goes p e below _ (T6.setTop (mkF m 46 #[.val (.ref o0), .val (.int c0), .val (.int (1 : Int32)), .unset] [(.int c1)]))
  refine Goes.go (fun t => XS.istoreN X6.here hx rfl (hb hby dN2_46) rfl (l' := #[.val (.ref o0), .val (.int c0), .val (.int (1 : Int32)), .val (.int c1)]) rfl) ?_
  refine Goes.go (fun t => XS.iloadN X6.here hx rfl (hb hby dN2_47) rfl ) ?_
  show Goes p e below _ (T6.setTop (mkF m 48 #[.val (.ref o0), .val (.int c0), .val (.int (1 : Int32)), .val (.int c1)] [(.int c1)]))
  obtain ⟨_, _, ⟨T7, L7, k7, n7⟩, -, X7, ⟨Lc7, hQ7, l7, y7, z7⟩, st7⟩ := Jvm.LawKit.callS X6 hx (y := (⟨oXC, "isNCNameChar", "(I)Z"⟩ : MethodName)) hown (mvT hZ (own_h hw 163 rfl)) (mvT hZ (own_h hw 164 rfl)) (mvT hZ (own_h hw 155 rfl)) (mvT hZ (own_h hw 165 rfl)) (by decide) (backOf (W := 0) (rmMC l Z a0 hw [] c1 wN cN h0 n0 Z0 S_N A_N Sz_N (at_N _ hn1) hn1.bd.1 hn1.bd.2) hZ (own_h hw 165 rfl) (own_h hw 155 rfl) (by decide) (by decide)) (g := (mkF m 48 #[.val (.ref o0), .val (.int c0), .val (.int (1 : Int32)), .val (.int c1)] [(.int c1)])) rfl (by rw [hml]; rfl) (argsL := [(.int c1)]) (rest := []) (lenOf pdN2_2 rfl) rfl (by show 2 * 0 + _ ≤ _; exact Nat.le_of_eq rfl) (hb hby dN2_48) (fun _ _ => ⟨rfl, e6q, (by decide : 0 + 0 ≤ _), (by decide : 0 + 0 ≤ _)⟩)
  dsimp only [Pt.U, Pt.locs, Pt.cells, Pt.slots] at X7 l7 y7 z7 st7 hQ7
  subst l7 y7 z7
  obtain ⟨rfl, N7q, e7q⟩ := hQ7
  have N7 := Fr.app N6 N7q
  refine Goes.go st7 ?_
  show Goes p e below _ (T7.setTop (mkF m 51 #[.val (.ref o0), .val (.int c0), .val (.int (1 : Int32)), .val (.int c1)] [(.int (1 : Int32))]))
  refine Goes.go (fun t => XS.ifYes X7.here hx rfl (pc0 := 51) (pc' := 56) rfl (hb hby dN2_51) rfl (Jvm.Free.XT.i0_ne_t (by decide)) (by decide) (by decide)) ?_
  show Goes p e below _ (T7.setTop (mkF m 56 #[.val (.ref o0), .val (.int c0), .val (.int (1 : Int32)), .val (.int c1)] []))
  refine Goes.go (fun t => XS.iloadN X7.here hx rfl (hb hby dN2_56) rfl ) ?_
  refine Goes.go (fun t => XS.iloadN X7.here hx rfl (hb hby dN2_57) rfl ) ?_
  show Goes p e below _ (T7.setTop (mkF m 58 #[.val (.ref o0), .val (.int c0), .val (.int (1 : Int32)), .val (.int c1)] [(.int c1), (.int (1 : Int32))]))
  obtain ⟨_, _, ⟨T8, L8, k8, n8⟩, -, X8, ⟨Lc8, hQ8, l8, y8, z8⟩, st8⟩ := Jvm.LawKit.callS X7 hx (y := (⟨"java/lang/Character", "charCount", "(I)I"⟩ : MethodName)) hown (mvT hZ (own_h hw 159 rfl)) (mvT hZ (own_h hw 160 rfl)) (mvT hZ (own_h hw 122 rfl)) (mvT hZ (own_h hw 161 rfl)) (by decide) (backOf (W := 1) (rmCC l Z a0 hw [] c1 h0 n0 Z0 (own_small hn1.ch.bd (by decide))) hZ (own_h hw 161 rfl) (own_h hw 122 rfl) (by decide) (by decide)) (g := (mkF m 58 #[.val (.ref o0), .val (.int c0), .val (.int (1 : Int32)), .val (.int c1)] [(.int c1), (.int (1 : Int32))])) rfl (by rw [hml]; rfl) (argsL := [(.int c1)]) (rest := [(.int (1 : Int32))]) (lenOf pdN2_3 rfl) rfl (by show 2 * 0 + _ ≤ _; exact Nat.le_of_eq rfl) (hb hby dN2_58) (fun _ _ => ⟨rfl, e7q, (by decide : 0 + 0 ≤ _), (by decide : 0 + 0 ≤ _)⟩)
  dsimp only [Pt.U, Pt.locs, Pt.cells, Pt.slots] at X8 l8 y8 z8 st8 hQ8
  subst l8 y8 z8
  obtain ⟨rfl, N8q, e8q⟩ := hQ8
  have N8 := Fr.app N7 N8q
  refine Goes.go st8 ?_
  show Goes p e below _ (T8.setTop (mkF m 61 #[.val (.ref o0), .val (.int c0), .val (.int (1 : Int32)), .val (.int c1)] [(.int (1 : Int32)), (.int (1 : Int32))]))
  refine Goes.go (fun t => XS.iadd X8.here hx rfl (hb hby dN2_61) rfl) ?_
  show Goes p e below _ (T8.setTop (mkF m 62 #[.val (.ref o0), .val (.int c0), .val (.int (1 : Int32)), .val (.int c1)] [(.int (2 : Int32))]))
  refine Goes.go (fun t => XS.istoreN X8.here hx rfl (hb hby dN2_62) rfl (l' := #[.val (.ref o0), .val (.int c0), .val (.int (2 : Int32)), .val (.int c1)]) rfl) ?_
  refine Goes.go (fun t => XS.goto X8.here hx rfl (pc0 := 63) (pc' := 31) rfl (hb hby dN2_63) (by decide) (by decide)) ?_
  refine Goes.go (fun t => XS.iloadN X8.here hx rfl (hb hby dN2_31) rfl ) ?_
  refine Goes.go (fun t => XS.aloadN X8.here hx rfl (hb hby dN2_32) rfl rfl ) ?_
  show Goes p e below _ (T8.setTop (mkF m 33 #[.val (.ref o0), .val (.int c0), .val (.int (2 : Int32)), .val (.int c1)] [(.ref o0), (.int (2 : Int32))]))
  obtain ⟨cq9, kq9, q9a, q9b, q9c⟩ := isOf hZ e8q E_s
  obtain ⟨_, _, ⟨T9, L9, k9, n9⟩, -, X9, ⟨Lc9, hQ9, l9, y9, z9⟩, st9⟩ := X8.interfaceBack hx (xi := (⟨"java/lang/CharSequence", "length", "()I"⟩ : MethodName)) (y := (⟨"java/lang/String", "length", "()I"⟩ : MethodName)) hown (mvT hZ (own_h hw 106 rfl)) (mvT hZ (own_h hw 107 rfl)) (mvT hZ (own_h hw 108 rfl)) (mvT hZ (own_h hw 109 rfl)) (mvT hZ (own_h hw 110 rfl)) (mvT hZ (own_h hw 111 rfl)) (mvT hZ (own_h hw 112 rfl)) (mvT hZ (own_h hw 113 rfl)) (by decide) (StrChars.Road.lenW (W := 1) hZ (fun d hd => hw d (own_wLen d hd)) (kI := 4) (own_h hw 13 rfl) E_s F_v F_c A_v (own_cod hcs) (own_up hcs) S_z hz hl (by decide) (by decide)) q9a q9b q9c (g := (mkF m 33 #[.val (.ref o0), .val (.int c0), .val (.int (2 : Int32)), .val (.int c1)] [(.ref o0), (.int (2 : Int32))])) rfl (by rw [hml]; rfl) (Steps.refl _) (argsL := []) (rest := [(.int (2 : Int32))]) (lenOf pdN2_0 rfl) rfl (by show 2 * 0 + _ ≤ _; exact Nat.le_of_eq rfl) (hb hby dN2_33) (fun _ _ => ⟨rfl, e8q, (by decide : 0 + 0 ≤ _), (by decide : 0 + 0 ≤ _)⟩)
  dsimp only [Pt.U, Pt.locs, Pt.cells, Pt.slots] at X9 l9 y9 z9 st9 hQ9
  subst l9 y9 z9
  obtain ⟨rfl, rfl, e9q⟩ := hQ9
  have N9q : Fr n0 ([] : List Loc) := Fr.nil n0
  have N9 := Fr.app N8 N9q
  refine Goes.via st9 ?_
  show Goes p e below _ (T9.setTop (mkF m 38 #[.val (.ref o0), .val (.int c0), .val (.int (2 : Int32)), .val (.int c1)] [(.int (2 : Int32)), (.int (2 : Int32))]))
  refine Goes.go (fun t => XS.icmpYes X9.here hx rfl (pc0 := 38) (pc' := 66) rfl (hb hby dN2_38) rfl (Jvm.Free.XT.ii_ge_t (by decide)) (by decide) (by decide)) ?_
  show Goes p e below _ (T9.setTop (mkF m 66 #[.val (.ref o0), .val (.int c0), .val (.int (2 : Int32)), .val (.int c1)] []))
  refine Goes.go (fun t => XS.iconst X9.here hx rfl (hb hby dN2_66)) ?_
  show Goes p e below _ (T9.setTop (mkF m 67 #[.val (.ref o0), .val (.int c0), .val (.int (2 : Int32)), .val (.int c1)] [(.int (1 : Int32))]))
  exact Goes.out X9 (fun h => by rw [Bd.returns] at h; cases h) Bd.notSynchronized (fun fs hr => retN X9 hx (t := .boolean) Bd.returns (by simp) (hb hby dN2_67) hr) ⟨rfl, N9, e9q⟩ (by decide) (by decide)
def QNC (Z : State) (o0 : Addr) (z : Int32) (fm : Value) (wS : Addr) (wN : Addr) (cS : Cell) (cN : Cell) (cs : List Int32) (h0 : Heap) (n0 : Nat) (v : Option Value) (h : Heap) (L : List Loc) : Prop := v = some (.int 1) ∧ Fr n0 L ∧ h = h0
set_option maxRecDepth 65536 in
set_option maxHeartbeats 40000000 in
theorem rmNC (l : Launch) (Z : State) (a0 : Array Value) (hw : ∀ d ∈ tables_1, d.before a0 Z = true) (ws : List Jvm.Cond) (o0 : Addr) (z : Int32) (fm : Value) (wS : Addr) (wN : Addr) (cS : Cell) (cN : Cell) (cs : List Int32) (h0 : Heap) (n0 : Nat) (Z0 : n0 ≤ h0.size) (V : own_env Z h0 z fm wS wN cS cN) (S : own_s Z h0 o0 cs) (hn : own_name cs) :
    MetFree l (⟨oQN, "isNCName", "(Ljava/lang/CharSequence;)Z"⟩ : MethodName) (head1 (Jvm.Cond.code (⟨oQN, "isNCName", "(Ljava/lang/CharSequence;)Z"⟩ : MethodName) prog_176_method_7_code 4 (some .boolean) :: ws) (oR 5 0 0 68)) (fun a U => a = #[(.ref o0)] ∧ Z.Warmed39 U.vm ∧ U.heap = h0) (fun _ _ _ _ _ => True) (fun _ U o U' => ∃ v L, o = .returned v ∧ QNC Z o0 z fm wS wN cS cN cs h0 n0 v U'.heap L ∧ FrameEnd U o U' L (oR 5 0 0 68).cells (oR 5 0 0 68).slots) := by
  rcases hn with ⟨c0, rfl, hn0⟩ | ⟨c0, c1, rfl, hn0, hn1⟩
  · exact rmN1 l Z a0 hw ws o0 z fm wS wN cS cN c0 h0 n0 Z0 V S hn0
  · exact rmN2 l Z a0 hw ws o0 z fm wS wN cS cN c0 c1 h0 n0 Z0 V S hn0 hn1
theorem dRL_0 : decode prog_176_method_5_code 0 = .ok (.aload_n 0, 1) := by decide +kernel
theorem dRL_1 : decode prog_176_method_5_code 1 = .ok (.invokestatic 31, 3) := by decide +kernel
theorem dRL_4 : decode prog_176_method_5_code 4 = .ok (.ifCond .ne 17, 3) := by decide +kernel
theorem dRL_21 : decode prog_176_method_5_code 21 = .ok (.return_, 1) := by decide +kernel
theorem pn_RL : plainName oQN = true := by first | (simp [plainName, overriddenIn]; done) | decide +kernel
theorem pdRL_0 : parseMethodDescriptor "(Ljava/lang/CharSequence;)Z" = some ⟨[(.object "java/lang/CharSequence")], some .boolean⟩ := by decide +kernel
theorem ef_RL (m : MethodId) (o0 : Addr) : entryFrame m #[(.ref o0)] 1 = mkF m 0 #[.val (.ref o0)] [] := by first | (simp [entryFrame, mkF, argsToLocals, Value.category]; done) | rfl
def QRL (Z : State) (o0 : Addr) (z : Int32) (fm : Value) (wS : Addr) (wN : Addr) (cS : Cell) (cN : Cell) (cs : List Int32) (h0 : Heap) (n0 : Nat) (v : Option Value) (h : Heap) (L : List Loc) : Prop := v = none ∧ Fr n0 L ∧ h = h0
set_option maxRecDepth 65536 in
set_option maxHeartbeats 40000000 in
theorem rmRL (l : Launch) (Z : State) (a0 : Array Value) (hw : ∀ d ∈ tables_1, d.before a0 Z = true) (ws : List Jvm.Cond) (o0 : Addr) (z : Int32) (fm : Value) (wS : Addr) (wN : Addr) (cS : Cell) (cN : Cell) (cs : List Int32) (h0 : Heap) (n0 : Nat) (Z0 : n0 ≤ h0.size) (V : own_env Z h0 z fm wS wN cS cN) (S : own_s Z h0 o0 cs) (hn : own_name cs) :
    MetFree l (⟨oQN, "requireLocalName", "(Ljava/lang/String;)V"⟩ : MethodName) (head1 (Jvm.Cond.code (⟨oQN, "requireLocalName", "(Ljava/lang/String;)V"⟩ : MethodName) prog_176_method_5_code 1 none :: ws) (oR 6 0 0 83)) (fun a U => a = #[(.ref o0)] ∧ Z.Warmed39 U.vm ∧ U.heap = h0) (fun _ _ _ _ _ => True) (fun _ U o U' => ∃ v L, o = .returned v ∧ QRL Z o0 z fm wS wN cS cN cs h0 n0 v U'.heap L ∧ FrameEnd U o U' L (oR 6 0 0 83).cells (oR 6 0 0 83).slots) := by
  refine MetFree.of_bodySF (plainFor_of_name pn_RL) hisR ?_
  intro p e s m args below meth c s₁ Bd hml0 hP hK
  obtain ⟨rfl, hZ, hh⟩ := hP
  have hx := Bd.exec
  have hby := Bd.bytes
  have hml : c.maxLocals = 1 := hml0
  have hown : s.vm.findClass oQN = some m.cls := findClass_of_methodNamed Bd.named
  have hnm := (name_of_methodNamed Bd.named Bd.method).1
  have X0 : Stand p l e (oR 6 0 0 83) s m #[(.ref o0)] below meth c s₁ [] 0 0 := Stand.of_body Bd
  have e0 : s₁.heap = h0 := by rw [← hh, Bd.state]; rfl
  have N0 := Fr.nil n0
  show Goes p e below (fun o U' => ∃ v L, o = .returned v ∧ QRL Z o0 z fm wS wN cS cN cs h0 n0 v U'.heap L ∧ FrameEnd s o U' L (oR 6 0 0 83).cells (oR 6 0 0 83).slots) _
  refine Goes.go (fun t k => castTop (ef_RL m o0) k) ?_
  show Goes p e below _ (s₁.setTop (mkF m 0 #[.val (.ref o0)] []))
  refine Goes.go (fun t => XS.aloadN X0.here hx rfl (hb hby dRL_0) rfl rfl ) ?_
  show Goes p e below _ (s₁.setTop (mkF m 1 #[.val (.ref o0)] [(.ref o0)]))
  obtain ⟨_, _, ⟨T1, L1, k1, n1⟩, -, X1, ⟨Lc1, hQ1, l1, y1, z1⟩, st1⟩ := Jvm.LawKit.callS X0 hx (y := (⟨oQN, "isNCName", "(Ljava/lang/CharSequence;)Z"⟩ : MethodName)) hown (mvT hZ (own_h hw 103 rfl)) (mvT hZ (own_h hw 104 rfl)) (mvT hZ (own_h hw 101 rfl)) (mvT hZ (own_h hw 105 rfl)) (by decide) (backOf (W := 0) (rmNC l Z a0 hw [] o0 z fm wS wN cS cN cs h0 n0 Z0 V S hn) hZ (own_h hw 105 rfl) (own_h hw 101 rfl) (by decide) (by decide)) (g := (mkF m 1 #[.val (.ref o0)] [(.ref o0)])) rfl (by rw [hml]; rfl) (argsL := [(.ref o0)]) (rest := []) (lenOf pdRL_0 rfl) rfl (by show 2 * 0 + _ ≤ _; exact Nat.le_of_eq rfl) (hb hby dRL_1) (fun _ _ => ⟨rfl, e0, (by decide : 0 + 0 ≤ _), (by decide : 0 + 0 ≤ _)⟩)
  dsimp only [Pt.U, Pt.locs, Pt.cells, Pt.slots] at X1 l1 y1 z1 st1 hQ1
  subst l1 y1 z1
  obtain ⟨rfl, N1q, e1q⟩ := hQ1
  have N1 := Fr.app N0 N1q
  refine Goes.go st1 ?_
  show Goes p e below _ (T1.setTop (mkF m 4 #[.val (.ref o0)] [(.int (1 : Int32))]))
  refine Goes.go (fun t => XS.ifYes X1.here hx rfl (pc0 := 4) (pc' := 21) rfl (hb hby dRL_4) rfl (Jvm.Free.XT.i0_ne_t (by decide)) (by decide) (by decide)) ?_
  show Goes p e below _ (T1.setTop (mkF m 21 #[.val (.ref o0)] []))
  exact Goes.out X1 (fun _ => rfl) Bd.notSynchronized (fun fs hr => X1.returnOut hx Bd.returns (hb hby dRL_21) hr) ⟨rfl, N1, e1q⟩ (by decide) (by decide)
theorem dI0_0 : decode prog_228_method_6_code 0 = .ok (.iconst 0, 1) := by decide +kernel
theorem dI0_1 : decode prog_228_method_6_code 1 = .ok (.istore_n 1, 1) := by decide +kernel
theorem dI0_2 : decode prog_228_method_6_code 2 = .ok (.iload_n 1, 1) := by decide +kernel
theorem dI0_3 : decode prog_228_method_6_code 3 = .ok (.aload_n 0, 1) := by decide +kernel
theorem dI0_4 : decode prog_228_method_6_code 4 = .ok (.invokevirtual 7, 3) := by decide +kernel
theorem dI0_7 : decode prog_228_method_6_code 7 = .ok (.if_icmp .ge 28, 3) := by decide +kernel
theorem dI0_35 : decode prog_228_method_6_code 35 = .ok (.iconst (-1), 1) := by decide +kernel
theorem dI0_36 : decode prog_228_method_6_code 36 = .ok (.ireturn, 1) := by decide +kernel
theorem pn_I0 : plainName oXC = true := by first | (simp [plainName, overriddenIn]; done) | decide +kernel
theorem pdI0_0 : parseMethodDescriptor "()I" = some ⟨[], some .int⟩ := by decide +kernel
theorem ef_I0 (m : MethodId) (o0 : Addr) : entryFrame m #[(.ref o0)] 3 = mkF m 0 #[.val (.ref o0), .unset, .unset] [] := by first | (simp [entryFrame, mkF, argsToLocals, Value.category]; done) | rfl
def QI0 (Z : State) (o0 : Addr) (z : Int32) (fm : Value) (wS : Addr) (wN : Addr) (cS : Cell) (cN : Cell) (h0 : Heap) (n0 : Nat) (v : Option Value) (h : Heap) (L : List Loc) : Prop := v = some (.int (-1)) ∧ Fr n0 L ∧ h = h0
set_option maxRecDepth 65536 in
set_option maxHeartbeats 40000000 in
theorem rmI0 (l : Launch) (Z : State) (a0 : Array Value) (hw : ∀ d ∈ tables_1, d.before a0 Z = true) (ws : List Jvm.Cond) (o0 : Addr) (z : Int32) (fm : Value) (wS : Addr) (wN : Addr) (cS : Cell) (cN : Cell) (h0 : Heap) (n0 : Nat) (Z0 : n0 ≤ h0.size) (V : own_env Z h0 z fm wS wN cS cN) (S : own_s Z h0 o0 []) :
    MetFree l (⟨oXC, "indexOfNonXmlCharacter", "(Ljava/lang/String;)I"⟩ : MethodName) (head1 (Jvm.Cond.code (⟨oXC, "indexOfNonXmlCharacter", "(Ljava/lang/String;)I"⟩ : MethodName) prog_228_method_6_code 3 (some .int) :: ws) (oR 3 0 0 41)) (fun a U => a = #[(.ref o0)] ∧ Z.Warmed39 U.vm ∧ U.heap = h0) (fun _ _ _ _ _ => True) (fun _ U o U' => ∃ v L, o = .returned v ∧ QI0 Z o0 z fm wS wN cS cN h0 n0 v U'.heap L ∧ FrameEnd U o U' L (oR 3 0 0 41).cells (oR 3 0 0 41).slots) := by
  refine MetFree.of_bodySF (plainFor_of_name pn_I0) hisR ?_
  intro p e s m args below meth c s₁ Bd hml0 hP hK
  obtain ⟨rfl, hZ, hh⟩ := hP
  have hx := Bd.exec
  have hby := Bd.bytes
  have hml : c.maxLocals = 3 := hml0
  have hown : s.vm.findClass oXC = some m.cls := findClass_of_methodNamed Bd.named
  have hnm := (name_of_methodNamed Bd.named Bd.method).1
  have X0 : Stand p l e (oR 3 0 0 41) s m #[(.ref o0)] below meth c s₁ [] 0 0 := Stand.of_body Bd
  have e0 : s₁.heap = h0 := by rw [← hh, Bd.state]; rfl
  have N0 := Fr.nil n0
  show Goes p e below (fun o U' => ∃ v L, o = .returned v ∧ QI0 Z o0 z fm wS wN cS cN h0 n0 v U'.heap L ∧ FrameEnd s o U' L (oR 3 0 0 41).cells (oR 3 0 0 41).slots) _
  refine Goes.go (fun t k => castTop (ef_I0 m o0) k) ?_
  obtain ⟨E_s, F_c, ⟨t, kb, F_v, A_v⟩, hcs, hl⟩ := id S
  obtain ⟨S_z, hz, S_f, rf, S_S, A_S, Sz_S, at_S, S_N, A_N, Sz_N, at_N⟩ := id V
  show Goes p e below _ (s₁.setTop (mkF m 0 #[.val (.ref o0), .unset, .unset] []))
  refine Goes.go (fun t => XS.iconst X0.here hx rfl (hb hby dI0_0)) ?_
  refine Goes.go (fun t => XS.istoreN X0.here hx rfl (hb hby dI0_1) rfl (l' := #[.val (.ref o0), .val (.int (0 : Int32)), .unset]) rfl) ?_
  refine Goes.go (fun t => XS.iloadN X0.here hx rfl (hb hby dI0_2) rfl ) ?_
  refine Goes.go (fun t => XS.aloadN X0.here hx rfl (hb hby dI0_3) rfl rfl ) ?_
  show Goes p e below _ (s₁.setTop (mkF m 4 #[.val (.ref o0), .val (.int (0 : Int32)), .unset] [(.ref o0), (.int (0 : Int32))]))
  obtain ⟨cq1, kq1, q1a, q1b, q1c⟩ := isOf hZ e0 E_s
  obtain ⟨_, _, ⟨T1, L1, k1, n1⟩, -, X1, ⟨Lc1, hQ1, l1, y1, z1⟩, st1⟩ := X0.virtualBack hx (y := (⟨"java/lang/String", "length", "()I"⟩ : MethodName)) (z := (⟨"java/lang/String", "length", "()I"⟩ : MethodName)) hown (mvT hZ (own_h hw 178 rfl)) (mvT hZ (own_h hw 179 rfl)) (notFace_of_selects (args := #[]) (mvT hZ (own_h hw 180 rfl))) (mvT hZ (own_h hw 180 rfl)) (mvT hZ (own_h hw 110 rfl)) (by decide) (StrChars.Road.lenW (W := 1) hZ (fun d hd => hw d (own_wLen d hd)) (kI := 4) (own_h hw 13 rfl) E_s F_v F_c A_v (own_cod hcs) (own_up hcs) S_z hz hl (by decide) (by decide)) q1a q1c (g := (mkF m 4 #[.val (.ref o0), .val (.int (0 : Int32)), .unset] [(.ref o0), (.int (0 : Int32))])) rfl (by rw [hml]; rfl) (Steps.refl _) (argsL := []) (rest := [(.int (0 : Int32))]) (lenOf pdI0_0 rfl) rfl (by show 2 * 0 + _ ≤ _; exact Nat.le_of_eq rfl) (hb hby dI0_4) (fun _ _ => ⟨rfl, e0, (by decide : 0 + 0 ≤ _), (by decide : 0 + 0 ≤ _)⟩)
  dsimp only [Pt.U, Pt.locs, Pt.cells, Pt.slots] at X1 l1 y1 z1 st1 hQ1
  subst l1 y1 z1
  obtain ⟨rfl, rfl, e1q⟩ := hQ1
  have N1q : Fr n0 ([] : List Loc) := Fr.nil n0
  have N1 := Fr.app N0 N1q
  refine Goes.via st1 ?_
  show Goes p e below _ (T1.setTop (mkF m 7 #[.val (.ref o0), .val (.int (0 : Int32)), .unset] [(.int (0 : Int32)), (.int (0 : Int32))]))
  refine Goes.go (fun t => XS.icmpYes X1.here hx rfl (pc0 := 7) (pc' := 35) rfl (hb hby dI0_7) rfl (Jvm.Free.XT.ii_ge_t (by decide)) (by decide) (by decide)) ?_
  show Goes p e below _ (T1.setTop (mkF m 35 #[.val (.ref o0), .val (.int (0 : Int32)), .unset] []))
  refine Goes.go (fun t => XS.iconst X1.here hx rfl (hb hby dI0_35)) ?_
  show Goes p e below _ (T1.setTop (mkF m 36 #[.val (.ref o0), .val (.int (0 : Int32)), .unset] [(.int (-1 : Int32))]))
  exact Goes.out X1 (fun h => by rw [Bd.returns] at h; cases h) Bd.notSynchronized (fun fs hr => retI X1 hx Bd.returns (hb hby dI0_36) hr) ⟨rfl, N1, e1q⟩ (by decide) (by decide)
theorem dI1_0 : decode prog_228_method_6_code 0 = .ok (.iconst 0, 1) := by decide +kernel
theorem dI1_1 : decode prog_228_method_6_code 1 = .ok (.istore_n 1, 1) := by decide +kernel
theorem dI1_2 : decode prog_228_method_6_code 2 = .ok (.iload_n 1, 1) := by decide +kernel
theorem dI1_3 : decode prog_228_method_6_code 3 = .ok (.aload_n 0, 1) := by decide +kernel
theorem dI1_4 : decode prog_228_method_6_code 4 = .ok (.invokevirtual 7, 3) := by decide +kernel
theorem dI1_7 : decode prog_228_method_6_code 7 = .ok (.if_icmp .ge 28, 3) := by decide +kernel
theorem dI1_10 : decode prog_228_method_6_code 10 = .ok (.aload_n 0, 1) := by decide +kernel
theorem dI1_11 : decode prog_228_method_6_code 11 = .ok (.iload_n 1, 1) := by decide +kernel
theorem dI1_12 : decode prog_228_method_6_code 12 = .ok (.invokevirtual 46, 3) := by decide +kernel
theorem dI1_15 : decode prog_228_method_6_code 15 = .ok (.istore_n 2, 1) := by decide +kernel
theorem dI1_16 : decode prog_228_method_6_code 16 = .ok (.iload_n 2, 1) := by decide +kernel
theorem dI1_17 : decode prog_228_method_6_code 17 = .ok (.invokestatic 50, 3) := by decide +kernel
theorem dI1_20 : decode prog_228_method_6_code 20 = .ok (.ifCond .ne 5, 3) := by decide +kernel
theorem dI1_25 : decode prog_228_method_6_code 25 = .ok (.iload_n 1, 1) := by decide +kernel
theorem dI1_26 : decode prog_228_method_6_code 26 = .ok (.iload_n 2, 1) := by decide +kernel
theorem dI1_27 : decode prog_228_method_6_code 27 = .ok (.invokestatic 53, 3) := by decide +kernel
theorem dI1_30 : decode prog_228_method_6_code 30 = .ok (.iadd, 1) := by decide +kernel
theorem dI1_31 : decode prog_228_method_6_code 31 = .ok (.istore_n 1, 1) := by decide +kernel
theorem dI1_32 : decode prog_228_method_6_code 32 = .ok (.goto (-30), 3) := by decide +kernel
theorem dI1_35 : decode prog_228_method_6_code 35 = .ok (.iconst (-1), 1) := by decide +kernel
theorem dI1_36 : decode prog_228_method_6_code 36 = .ok (.ireturn, 1) := by decide +kernel
theorem pn_I1 : plainName oXC = true := by first | (simp [plainName, overriddenIn]; done) | decide +kernel
theorem pdI1_0 : parseMethodDescriptor "()I" = some ⟨[], some .int⟩ := by decide +kernel
theorem pdI1_1 : parseMethodDescriptor "(I)I" = some ⟨[.int], some .int⟩ := by decide +kernel
theorem pdI1_2 : parseMethodDescriptor "(I)Z" = some ⟨[.int], some .boolean⟩ := by decide +kernel
theorem ef_I1 (m : MethodId) (o0 : Addr) : entryFrame m #[(.ref o0)] 3 = mkF m 0 #[.val (.ref o0), .unset, .unset] [] := by first | (simp [entryFrame, mkF, argsToLocals, Value.category]; done) | rfl
def QI1 (Z : State) (o0 : Addr) (z : Int32) (fm : Value) (wS : Addr) (wN : Addr) (cS : Cell) (cN : Cell) (c0 : Int32) (h0 : Heap) (n0 : Nat) (v : Option Value) (h : Heap) (L : List Loc) : Prop := v = some (.int (-1)) ∧ Fr n0 L ∧ h = h0
set_option maxRecDepth 65536 in
set_option maxHeartbeats 40000000 in
theorem rmI1 (l : Launch) (Z : State) (a0 : Array Value) (hw : ∀ d ∈ tables_1, d.before a0 Z = true) (ws : List Jvm.Cond) (o0 : Addr) (z : Int32) (fm : Value) (wS : Addr) (wN : Addr) (cS : Cell) (cN : Cell) (c0 : Int32) (h0 : Heap) (n0 : Nat) (Z0 : n0 ≤ h0.size) (V : own_env Z h0 z fm wS wN cS cN) (S : own_s Z h0 o0 [c0]) (hn0 : own_ch c0) :
    MetFree l (⟨oXC, "indexOfNonXmlCharacter", "(Ljava/lang/String;)I"⟩ : MethodName) (head1 (Jvm.Cond.code (⟨oXC, "indexOfNonXmlCharacter", "(Ljava/lang/String;)I"⟩ : MethodName) prog_228_method_6_code 3 (some .int) :: ws) (oR 3 0 0 41)) (fun a U => a = #[(.ref o0)] ∧ Z.Warmed39 U.vm ∧ U.heap = h0) (fun _ _ _ _ _ => True) (fun _ U o U' => ∃ v L, o = .returned v ∧ QI1 Z o0 z fm wS wN cS cN c0 h0 n0 v U'.heap L ∧ FrameEnd U o U' L (oR 3 0 0 41).cells (oR 3 0 0 41).slots) := by
  refine MetFree.of_bodySF (plainFor_of_name pn_I1) hisR ?_
  intro p e s m args below meth c s₁ Bd hml0 hP hK
  obtain ⟨rfl, hZ, hh⟩ := hP
  have hx := Bd.exec
  have hby := Bd.bytes
  have hml : c.maxLocals = 3 := hml0
  have hown : s.vm.findClass oXC = some m.cls := findClass_of_methodNamed Bd.named
  have hnm := (name_of_methodNamed Bd.named Bd.method).1
  have X0 : Stand p l e (oR 3 0 0 41) s m #[(.ref o0)] below meth c s₁ [] 0 0 := Stand.of_body Bd
  have e0 : s₁.heap = h0 := by rw [← hh, Bd.state]; rfl
  have N0 := Fr.nil n0
  show Goes p e below (fun o U' => ∃ v L, o = .returned v ∧ QI1 Z o0 z fm wS wN cS cN c0 h0 n0 v U'.heap L ∧ FrameEnd s o U' L (oR 3 0 0 41).cells (oR 3 0 0 41).slots) _
  refine Goes.go (fun t k => castTop (ef_I1 m o0) k) ?_
  obtain ⟨E_s, F_c, ⟨t, kb, F_v, A_v⟩, hcs, hl⟩ := id S
  obtain ⟨S_z, hz, S_f, rf, S_S, A_S, Sz_S, at_S, S_N, A_N, Sz_N, at_N⟩ := id V
  show Goes p e below _ (s₁.setTop (mkF m 0 #[.val (.ref o0), .unset, .unset] []))
  refine Goes.go (fun t => XS.iconst X0.here hx rfl (hb hby dI1_0)) ?_
  refine Goes.go (fun t => XS.istoreN X0.here hx rfl (hb hby dI1_1) rfl (l' := #[.val (.ref o0), .val (.int (0 : Int32)), .unset]) rfl) ?_
  refine Goes.go (fun t => XS.iloadN X0.here hx rfl (hb hby dI1_2) rfl ) ?_
  refine Goes.go (fun t => XS.aloadN X0.here hx rfl (hb hby dI1_3) rfl rfl ) ?_
  show Goes p e below _ (s₁.setTop (mkF m 4 #[.val (.ref o0), .val (.int (0 : Int32)), .unset] [(.ref o0), (.int (0 : Int32))]))
  obtain ⟨cq1, kq1, q1a, q1b, q1c⟩ := isOf hZ e0 E_s
  obtain ⟨_, _, ⟨T1, L1, k1, n1⟩, -, X1, ⟨Lc1, hQ1, l1, y1, z1⟩, st1⟩ := X0.virtualBack hx (y := (⟨"java/lang/String", "length", "()I"⟩ : MethodName)) (z := (⟨"java/lang/String", "length", "()I"⟩ : MethodName)) hown (mvT hZ (own_h hw 178 rfl)) (mvT hZ (own_h hw 179 rfl)) (notFace_of_selects (args := #[]) (mvT hZ (own_h hw 180 rfl))) (mvT hZ (own_h hw 180 rfl)) (mvT hZ (own_h hw 110 rfl)) (by decide) (StrChars.Road.lenW (W := 1) hZ (fun d hd => hw d (own_wLen d hd)) (kI := 4) (own_h hw 13 rfl) E_s F_v F_c A_v (own_cod hcs) (own_up hcs) S_z hz hl (by decide) (by decide)) q1a q1c (g := (mkF m 4 #[.val (.ref o0), .val (.int (0 : Int32)), .unset] [(.ref o0), (.int (0 : Int32))])) rfl (by rw [hml]; rfl) (Steps.refl _) (argsL := []) (rest := [(.int (0 : Int32))]) (lenOf pdI1_0 rfl) rfl (by show 2 * 0 + _ ≤ _; exact Nat.le_of_eq rfl) (hb hby dI1_4) (fun _ _ => ⟨rfl, e0, (by decide : 0 + 0 ≤ _), (by decide : 0 + 0 ≤ _)⟩)
  dsimp only [Pt.U, Pt.locs, Pt.cells, Pt.slots] at X1 l1 y1 z1 st1 hQ1
  subst l1 y1 z1
  obtain ⟨rfl, rfl, e1q⟩ := hQ1
  have N1q : Fr n0 ([] : List Loc) := Fr.nil n0
  have N1 := Fr.app N0 N1q
  refine Goes.via st1 ?_
  show Goes p e below _ (T1.setTop (mkF m 7 #[.val (.ref o0), .val (.int (0 : Int32)), .unset] [(.int (1 : Int32)), (.int (0 : Int32))]))
  refine Goes.go (fun t => XS.icmpNo X1.here hx rfl (hb hby dI1_7) rfl (Jvm.Free.XT.ii_ge_f (by decide))) ?_
  show Goes p e below _ (T1.setTop (mkF m 10 #[.val (.ref o0), .val (.int (0 : Int32)), .unset] []))
  refine Goes.go (fun t => XS.aloadN X1.here hx rfl (hb hby dI1_10) rfl rfl ) ?_
  refine Goes.go (fun t => XS.iloadN X1.here hx rfl (hb hby dI1_11) rfl ) ?_
  show Goes p e below _ (T1.setTop (mkF m 12 #[.val (.ref o0), .val (.int (0 : Int32)), .unset] [(.int (0 : Int32)), (.ref o0)]))
  obtain ⟨cq2, kq2, q2a, q2b, q2c⟩ := isOf hZ e1q E_s
  obtain ⟨_, _, ⟨T2, L2, k2, n2⟩, -, X2, ⟨Lc2, hQ2, l2, y2, z2⟩, st2⟩ := X1.virtualBack hx (y := (⟨"java/lang/String", "codePointAt", "(I)I"⟩ : MethodName)) (z := (⟨"java/lang/String", "codePointAt", "(I)I"⟩ : MethodName)) hown (mvT hZ (own_h hw 224 rfl)) (mvT hZ (own_h hw 225 rfl)) (notFace_of_selects (args := #[]) (mvT hZ (own_h hw 227 rfl))) (mvT hZ (own_h hw 227 rfl)) (mvT hZ (own_h hw 226 rfl)) (by decide) (backOf (W := 0) (rmCP l Z a0 hw [] o0 (0 : Int32) z fm [c0] 0 h0 n0 Z0 S S_z hz S_f rf (Nat.le_of_ble_eq_true rfl) (by decide) (show (0 : Int32) < Int32.ofNat 1 by decide) rfl) hZ (own_h hw 228 rfl) (own_h hw 14 rfl) (by decide) (by decide)) q2a q2c (g := (mkF m 12 #[.val (.ref o0), .val (.int (0 : Int32)), .unset] [(.int (0 : Int32)), (.ref o0)])) rfl (by rw [hml]; rfl) (Steps.refl _) (argsL := [(.int (0 : Int32))]) (rest := []) (lenOf pdI1_1 rfl) rfl (by show 2 * 0 + _ ≤ _; exact Nat.le_of_eq rfl) (hb hby dI1_12) (fun _ _ => ⟨rfl, e1q, (by decide : 0 + 0 ≤ _), (by decide : 0 + 0 ≤ _)⟩)
  dsimp only [Pt.U, Pt.locs, Pt.cells, Pt.slots] at X2 l2 y2 z2 st2 hQ2
  subst l2 y2 z2
  obtain ⟨rfl, N2q, e2q⟩ := hQ2
  have N2 := Fr.app N1 N2q
  refine Goes.via st2 ?_
  show Goes p e below _ (T2.setTop (mkF m 15 #[.val (.ref o0), .val (.int (0 : Int32)), .unset] [(.int c0)]))
  refine Goes.go (fun t => XS.istoreN X2.here hx rfl (hb hby dI1_15) rfl (l' := #[.val (.ref o0), .val (.int (0 : Int32)), .val (.int c0)]) rfl) ?_
  refine Goes.go (fun t => XS.iloadN X2.here hx rfl (hb hby dI1_16) rfl ) ?_
  show Goes p e below _ (T2.setTop (mkF m 17 #[.val (.ref o0), .val (.int (0 : Int32)), .val (.int c0)] [(.int c0)]))
  obtain ⟨_, _, ⟨T3, L3, k3, n3⟩, -, X3, ⟨Lc3, hQ3, l3, y3, z3⟩, st3⟩ := Jvm.LawKit.callS X2 hx (y := (⟨oXC, "isXmlCharacter", "(I)Z"⟩ : MethodName)) hown (mvT hZ (own_h hw 230 rfl)) (mvT hZ (own_h hw 231 rfl)) (mvT hZ (own_h hw 155 rfl)) (mvT hZ (own_h hw 232 rfl)) (by decide) (backOf (W := 0) (rmIX l Z a0 hw [] c0 h0 n0 Z0 hn0) hZ (own_h hw 232 rfl) (own_h hw 155 rfl) (by decide) (by decide)) (g := (mkF m 17 #[.val (.ref o0), .val (.int (0 : Int32)), .val (.int c0)] [(.int c0)])) rfl (by rw [hml]; rfl) (argsL := [(.int c0)]) (rest := []) (lenOf pdI1_2 rfl) rfl (by show 2 * 0 + _ ≤ _; exact Nat.le_of_eq rfl) (hb hby dI1_17) (fun _ _ => ⟨rfl, e2q, (by decide : 0 + 0 ≤ _), (by decide : 0 + 0 ≤ _)⟩)
  dsimp only [Pt.U, Pt.locs, Pt.cells, Pt.slots] at X3 l3 y3 z3 st3 hQ3
  subst l3 y3 z3
  obtain ⟨rfl, N3q, e3q⟩ := hQ3
  have N3 := Fr.app N2 N3q
  refine Goes.go st3 ?_
  show Goes p e below _ (T3.setTop (mkF m 20 #[.val (.ref o0), .val (.int (0 : Int32)), .val (.int c0)] [(.int (1 : Int32))]))
  refine Goes.go (fun t => XS.ifYes X3.here hx rfl (pc0 := 20) (pc' := 25) rfl (hb hby dI1_20) rfl (Jvm.Free.XT.i0_ne_t (by decide)) (by decide) (by decide)) ?_
  show Goes p e below _ (T3.setTop (mkF m 25 #[.val (.ref o0), .val (.int (0 : Int32)), .val (.int c0)] []))
  refine Goes.go (fun t => XS.iloadN X3.here hx rfl (hb hby dI1_25) rfl ) ?_
  refine Goes.go (fun t => XS.iloadN X3.here hx rfl (hb hby dI1_26) rfl ) ?_
  show Goes p e below _ (T3.setTop (mkF m 27 #[.val (.ref o0), .val (.int (0 : Int32)), .val (.int c0)] [(.int c0), (.int (0 : Int32))]))
  obtain ⟨_, _, ⟨T4, L4, k4, n4⟩, -, X4, ⟨Lc4, hQ4, l4, y4, z4⟩, st4⟩ := Jvm.LawKit.callS X3 hx (y := (⟨"java/lang/Character", "charCount", "(I)I"⟩ : MethodName)) hown (mvT hZ (own_h hw 234 rfl)) (mvT hZ (own_h hw 160 rfl)) (mvT hZ (own_h hw 122 rfl)) (mvT hZ (own_h hw 161 rfl)) (by decide) (backOf (W := 1) (rmCC l Z a0 hw [] c0 h0 n0 Z0 (own_small hn0.bd (by decide))) hZ (own_h hw 161 rfl) (own_h hw 122 rfl) (by decide) (by decide)) (g := (mkF m 27 #[.val (.ref o0), .val (.int (0 : Int32)), .val (.int c0)] [(.int c0), (.int (0 : Int32))])) rfl (by rw [hml]; rfl) (argsL := [(.int c0)]) (rest := [(.int (0 : Int32))]) (lenOf pdI1_1 rfl) rfl (by show 2 * 0 + _ ≤ _; exact Nat.le_of_eq rfl) (hb hby dI1_27) (fun _ _ => ⟨rfl, e3q, (by decide : 0 + 0 ≤ _), (by decide : 0 + 0 ≤ _)⟩)
  dsimp only [Pt.U, Pt.locs, Pt.cells, Pt.slots] at X4 l4 y4 z4 st4 hQ4
  subst l4 y4 z4
  obtain ⟨rfl, N4q, e4q⟩ := hQ4
  have N4 := Fr.app N3 N4q
  refine Goes.go st4 ?_
  show Goes p e below _ (T4.setTop (mkF m 30 #[.val (.ref o0), .val (.int (0 : Int32)), .val (.int c0)] [(.int (1 : Int32)), (.int (0 : Int32))]))
  refine Goes.go (fun t => XS.iadd X4.here hx rfl (hb hby dI1_30) rfl) ?_
  show Goes p e below _ (T4.setTop (mkF m 31 #[.val (.ref o0), .val (.int (0 : Int32)), .val (.int c0)] [(.int (1 : Int32))]))
  refine Goes.go (fun t => XS.istoreN X4.here hx rfl (hb hby dI1_31) rfl (l' := #[.val (.ref o0), .val (.int (1 : Int32)), .val (.int c0)]) rfl) ?_
  refine Goes.go (fun t => XS.goto X4.here hx rfl (pc0 := 32) (pc' := 2) rfl (hb hby dI1_32) (by decide) (by decide)) ?_
  refine Goes.go (fun t => XS.iloadN X4.here hx rfl (hb hby dI1_2) rfl ) ?_
  refine Goes.go (fun t => XS.aloadN X4.here hx rfl (hb hby dI1_3) rfl rfl ) ?_
  show Goes p e below _ (T4.setTop (mkF m 4 #[.val (.ref o0), .val (.int (1 : Int32)), .val (.int c0)] [(.ref o0), (.int (1 : Int32))]))
  obtain ⟨cq5, kq5, q5a, q5b, q5c⟩ := isOf hZ e4q E_s
  obtain ⟨_, _, ⟨T5, L5, k5, n5⟩, -, X5, ⟨Lc5, hQ5, l5, y5, z5⟩, st5⟩ := X4.virtualBack hx (y := (⟨"java/lang/String", "length", "()I"⟩ : MethodName)) (z := (⟨"java/lang/String", "length", "()I"⟩ : MethodName)) hown (mvT hZ (own_h hw 178 rfl)) (mvT hZ (own_h hw 179 rfl)) (notFace_of_selects (args := #[]) (mvT hZ (own_h hw 180 rfl))) (mvT hZ (own_h hw 180 rfl)) (mvT hZ (own_h hw 110 rfl)) (by decide) (StrChars.Road.lenW (W := 1) hZ (fun d hd => hw d (own_wLen d hd)) (kI := 4) (own_h hw 13 rfl) E_s F_v F_c A_v (own_cod hcs) (own_up hcs) S_z hz hl (by decide) (by decide)) q5a q5c (g := (mkF m 4 #[.val (.ref o0), .val (.int (1 : Int32)), .val (.int c0)] [(.ref o0), (.int (1 : Int32))])) rfl (by rw [hml]; rfl) (Steps.refl _) (argsL := []) (rest := [(.int (1 : Int32))]) (lenOf pdI1_0 rfl) rfl (by show 2 * 0 + _ ≤ _; exact Nat.le_of_eq rfl) (hb hby dI1_4) (fun _ _ => ⟨rfl, e4q, (by decide : 0 + 0 ≤ _), (by decide : 0 + 0 ≤ _)⟩)
  dsimp only [Pt.U, Pt.locs, Pt.cells, Pt.slots] at X5 l5 y5 z5 st5 hQ5
  subst l5 y5 z5
  obtain ⟨rfl, rfl, e5q⟩ := hQ5
  have N5q : Fr n0 ([] : List Loc) := Fr.nil n0
  have N5 := Fr.app N4 N5q
  refine Goes.via st5 ?_
  show Goes p e below _ (T5.setTop (mkF m 7 #[.val (.ref o0), .val (.int (1 : Int32)), .val (.int c0)] [(.int (1 : Int32)), (.int (1 : Int32))]))
  refine Goes.go (fun t => XS.icmpYes X5.here hx rfl (pc0 := 7) (pc' := 35) rfl (hb hby dI1_7) rfl (Jvm.Free.XT.ii_ge_t (by decide)) (by decide) (by decide)) ?_
  show Goes p e below _ (T5.setTop (mkF m 35 #[.val (.ref o0), .val (.int (1 : Int32)), .val (.int c0)] []))
  refine Goes.go (fun t => XS.iconst X5.here hx rfl (hb hby dI1_35)) ?_
  show Goes p e below _ (T5.setTop (mkF m 36 #[.val (.ref o0), .val (.int (1 : Int32)), .val (.int c0)] [(.int (-1 : Int32))]))
  exact Goes.out X5 (fun h => by rw [Bd.returns] at h; cases h) Bd.notSynchronized (fun fs hr => retI X5 hx Bd.returns (hb hby dI1_36) hr) ⟨rfl, N5, e5q⟩ (by decide) (by decide)
theorem dI2_0 : decode prog_228_method_6_code 0 = .ok (.iconst 0, 1) := by decide +kernel
theorem dI2_1 : decode prog_228_method_6_code 1 = .ok (.istore_n 1, 1) := by decide +kernel
theorem dI2_2 : decode prog_228_method_6_code 2 = .ok (.iload_n 1, 1) := by decide +kernel
theorem dI2_3 : decode prog_228_method_6_code 3 = .ok (.aload_n 0, 1) := by decide +kernel
theorem dI2_4 : decode prog_228_method_6_code 4 = .ok (.invokevirtual 7, 3) := by decide +kernel
theorem dI2_7 : decode prog_228_method_6_code 7 = .ok (.if_icmp .ge 28, 3) := by decide +kernel
theorem dI2_10 : decode prog_228_method_6_code 10 = .ok (.aload_n 0, 1) := by decide +kernel
theorem dI2_11 : decode prog_228_method_6_code 11 = .ok (.iload_n 1, 1) := by decide +kernel
theorem dI2_12 : decode prog_228_method_6_code 12 = .ok (.invokevirtual 46, 3) := by decide +kernel
theorem dI2_15 : decode prog_228_method_6_code 15 = .ok (.istore_n 2, 1) := by decide +kernel
theorem dI2_16 : decode prog_228_method_6_code 16 = .ok (.iload_n 2, 1) := by decide +kernel
theorem dI2_17 : decode prog_228_method_6_code 17 = .ok (.invokestatic 50, 3) := by decide +kernel
theorem dI2_20 : decode prog_228_method_6_code 20 = .ok (.ifCond .ne 5, 3) := by decide +kernel
theorem dI2_25 : decode prog_228_method_6_code 25 = .ok (.iload_n 1, 1) := by decide +kernel
theorem dI2_26 : decode prog_228_method_6_code 26 = .ok (.iload_n 2, 1) := by decide +kernel
theorem dI2_27 : decode prog_228_method_6_code 27 = .ok (.invokestatic 53, 3) := by decide +kernel
theorem dI2_30 : decode prog_228_method_6_code 30 = .ok (.iadd, 1) := by decide +kernel
theorem dI2_31 : decode prog_228_method_6_code 31 = .ok (.istore_n 1, 1) := by decide +kernel
theorem dI2_32 : decode prog_228_method_6_code 32 = .ok (.goto (-30), 3) := by decide +kernel
theorem dI2_35 : decode prog_228_method_6_code 35 = .ok (.iconst (-1), 1) := by decide +kernel
theorem dI2_36 : decode prog_228_method_6_code 36 = .ok (.ireturn, 1) := by decide +kernel
theorem pn_I2 : plainName oXC = true := by first | (simp [plainName, overriddenIn]; done) | decide +kernel
theorem pdI2_0 : parseMethodDescriptor "()I" = some ⟨[], some .int⟩ := by decide +kernel
theorem pdI2_1 : parseMethodDescriptor "(I)I" = some ⟨[.int], some .int⟩ := by decide +kernel
theorem pdI2_2 : parseMethodDescriptor "(I)Z" = some ⟨[.int], some .boolean⟩ := by decide +kernel
theorem ef_I2 (m : MethodId) (o0 : Addr) : entryFrame m #[(.ref o0)] 3 = mkF m 0 #[.val (.ref o0), .unset, .unset] [] := by first | (simp [entryFrame, mkF, argsToLocals, Value.category]; done) | rfl
def QI2 (Z : State) (o0 : Addr) (z : Int32) (fm : Value) (wS : Addr) (wN : Addr) (cS : Cell) (cN : Cell) (c0 : Int32) (c1 : Int32) (h0 : Heap) (n0 : Nat) (v : Option Value) (h : Heap) (L : List Loc) : Prop := v = some (.int (-1)) ∧ Fr n0 L ∧ h = h0
set_option maxRecDepth 65536 in
set_option maxHeartbeats 40000000 in
theorem rmI2 (l : Launch) (Z : State) (a0 : Array Value) (hw : ∀ d ∈ tables_1, d.before a0 Z = true) (ws : List Jvm.Cond) (o0 : Addr) (z : Int32) (fm : Value) (wS : Addr) (wN : Addr) (cS : Cell) (cN : Cell) (c0 : Int32) (c1 : Int32) (h0 : Heap) (n0 : Nat) (Z0 : n0 ≤ h0.size) (V : own_env Z h0 z fm wS wN cS cN) (S : own_s Z h0 o0 [c0, c1]) (hn0 : own_ch c0) (hn1 : own_ch c1) :
    MetFree l (⟨oXC, "indexOfNonXmlCharacter", "(Ljava/lang/String;)I"⟩ : MethodName) (head1 (Jvm.Cond.code (⟨oXC, "indexOfNonXmlCharacter", "(Ljava/lang/String;)I"⟩ : MethodName) prog_228_method_6_code 3 (some .int) :: ws) (oR 3 0 0 41)) (fun a U => a = #[(.ref o0)] ∧ Z.Warmed39 U.vm ∧ U.heap = h0) (fun _ _ _ _ _ => True) (fun _ U o U' => ∃ v L, o = .returned v ∧ QI2 Z o0 z fm wS wN cS cN c0 c1 h0 n0 v U'.heap L ∧ FrameEnd U o U' L (oR 3 0 0 41).cells (oR 3 0 0 41).slots) := by
  refine MetFree.of_bodySF (plainFor_of_name pn_I2) hisR ?_
  intro p e s m args below meth c s₁ Bd hml0 hP hK
  obtain ⟨rfl, hZ, hh⟩ := hP
  have hx := Bd.exec
  have hby := Bd.bytes
  have hml : c.maxLocals = 3 := hml0
  have hown : s.vm.findClass oXC = some m.cls := findClass_of_methodNamed Bd.named
  have hnm := (name_of_methodNamed Bd.named Bd.method).1
  have X0 : Stand p l e (oR 3 0 0 41) s m #[(.ref o0)] below meth c s₁ [] 0 0 := Stand.of_body Bd
  have e0 : s₁.heap = h0 := by rw [← hh, Bd.state]; rfl
  have N0 := Fr.nil n0
  show Goes p e below (fun o U' => ∃ v L, o = .returned v ∧ QI2 Z o0 z fm wS wN cS cN c0 c1 h0 n0 v U'.heap L ∧ FrameEnd s o U' L (oR 3 0 0 41).cells (oR 3 0 0 41).slots) _
  refine Goes.go (fun t k => castTop (ef_I2 m o0) k) ?_
  obtain ⟨E_s, F_c, ⟨t, kb, F_v, A_v⟩, hcs, hl⟩ := id S
  obtain ⟨S_z, hz, S_f, rf, S_S, A_S, Sz_S, at_S, S_N, A_N, Sz_N, at_N⟩ := id V
  show Goes p e below _ (s₁.setTop (mkF m 0 #[.val (.ref o0), .unset, .unset] []))
  refine Goes.go (fun t => XS.iconst X0.here hx rfl (hb hby dI2_0)) ?_
  refine Goes.go (fun t => XS.istoreN X0.here hx rfl (hb hby dI2_1) rfl (l' := #[.val (.ref o0), .val (.int (0 : Int32)), .unset]) rfl) ?_
  refine Goes.go (fun t => XS.iloadN X0.here hx rfl (hb hby dI2_2) rfl ) ?_
  refine Goes.go (fun t => XS.aloadN X0.here hx rfl (hb hby dI2_3) rfl rfl ) ?_
  show Goes p e below _ (s₁.setTop (mkF m 4 #[.val (.ref o0), .val (.int (0 : Int32)), .unset] [(.ref o0), (.int (0 : Int32))]))
  obtain ⟨cq1, kq1, q1a, q1b, q1c⟩ := isOf hZ e0 E_s
  obtain ⟨_, _, ⟨T1, L1, k1, n1⟩, -, X1, ⟨Lc1, hQ1, l1, y1, z1⟩, st1⟩ := X0.virtualBack hx (y := (⟨"java/lang/String", "length", "()I"⟩ : MethodName)) (z := (⟨"java/lang/String", "length", "()I"⟩ : MethodName)) hown (mvT hZ (own_h hw 178 rfl)) (mvT hZ (own_h hw 179 rfl)) (notFace_of_selects (args := #[]) (mvT hZ (own_h hw 180 rfl))) (mvT hZ (own_h hw 180 rfl)) (mvT hZ (own_h hw 110 rfl)) (by decide) (StrChars.Road.lenW (W := 1) hZ (fun d hd => hw d (own_wLen d hd)) (kI := 4) (own_h hw 13 rfl) E_s F_v F_c A_v (own_cod hcs) (own_up hcs) S_z hz hl (by decide) (by decide)) q1a q1c (g := (mkF m 4 #[.val (.ref o0), .val (.int (0 : Int32)), .unset] [(.ref o0), (.int (0 : Int32))])) rfl (by rw [hml]; rfl) (Steps.refl _) (argsL := []) (rest := [(.int (0 : Int32))]) (lenOf pdI2_0 rfl) rfl (by show 2 * 0 + _ ≤ _; exact Nat.le_of_eq rfl) (hb hby dI2_4) (fun _ _ => ⟨rfl, e0, (by decide : 0 + 0 ≤ _), (by decide : 0 + 0 ≤ _)⟩)
  dsimp only [Pt.U, Pt.locs, Pt.cells, Pt.slots] at X1 l1 y1 z1 st1 hQ1
  subst l1 y1 z1
  obtain ⟨rfl, rfl, e1q⟩ := hQ1
  have N1q : Fr n0 ([] : List Loc) := Fr.nil n0
  have N1 := Fr.app N0 N1q
  refine Goes.via st1 ?_
  show Goes p e below _ (T1.setTop (mkF m 7 #[.val (.ref o0), .val (.int (0 : Int32)), .unset] [(.int (2 : Int32)), (.int (0 : Int32))]))
  refine Goes.go (fun t => XS.icmpNo X1.here hx rfl (hb hby dI2_7) rfl (Jvm.Free.XT.ii_ge_f (by decide))) ?_
  show Goes p e below _ (T1.setTop (mkF m 10 #[.val (.ref o0), .val (.int (0 : Int32)), .unset] []))
  refine Goes.go (fun t => XS.aloadN X1.here hx rfl (hb hby dI2_10) rfl rfl ) ?_
  refine Goes.go (fun t => XS.iloadN X1.here hx rfl (hb hby dI2_11) rfl ) ?_
  show Goes p e below _ (T1.setTop (mkF m 12 #[.val (.ref o0), .val (.int (0 : Int32)), .unset] [(.int (0 : Int32)), (.ref o0)]))
  obtain ⟨cq2, kq2, q2a, q2b, q2c⟩ := isOf hZ e1q E_s
  obtain ⟨_, _, ⟨T2, L2, k2, n2⟩, -, X2, ⟨Lc2, hQ2, l2, y2, z2⟩, st2⟩ := X1.virtualBack hx (y := (⟨"java/lang/String", "codePointAt", "(I)I"⟩ : MethodName)) (z := (⟨"java/lang/String", "codePointAt", "(I)I"⟩ : MethodName)) hown (mvT hZ (own_h hw 224 rfl)) (mvT hZ (own_h hw 225 rfl)) (notFace_of_selects (args := #[]) (mvT hZ (own_h hw 227 rfl))) (mvT hZ (own_h hw 227 rfl)) (mvT hZ (own_h hw 226 rfl)) (by decide) (backOf (W := 0) (rmCP l Z a0 hw [] o0 (0 : Int32) z fm [c0, c1] 0 h0 n0 Z0 S S_z hz S_f rf (Nat.le_of_ble_eq_true rfl) (by decide) (show (0 : Int32) < Int32.ofNat 2 by decide) rfl) hZ (own_h hw 228 rfl) (own_h hw 14 rfl) (by decide) (by decide)) q2a q2c (g := (mkF m 12 #[.val (.ref o0), .val (.int (0 : Int32)), .unset] [(.int (0 : Int32)), (.ref o0)])) rfl (by rw [hml]; rfl) (Steps.refl _) (argsL := [(.int (0 : Int32))]) (rest := []) (lenOf pdI2_1 rfl) rfl (by show 2 * 0 + _ ≤ _; exact Nat.le_of_eq rfl) (hb hby dI2_12) (fun _ _ => ⟨rfl, e1q, (by decide : 0 + 0 ≤ _), (by decide : 0 + 0 ≤ _)⟩)
  dsimp only [Pt.U, Pt.locs, Pt.cells, Pt.slots] at X2 l2 y2 z2 st2 hQ2
  subst l2 y2 z2
  obtain ⟨rfl, N2q, e2q⟩ := hQ2
  have N2 := Fr.app N1 N2q
  refine Goes.via st2 ?_
  show Goes p e below _ (T2.setTop (mkF m 15 #[.val (.ref o0), .val (.int (0 : Int32)), .unset] [(.int c0)]))
  refine Goes.go (fun t => XS.istoreN X2.here hx rfl (hb hby dI2_15) rfl (l' := #[.val (.ref o0), .val (.int (0 : Int32)), .val (.int c0)]) rfl) ?_
  refine Goes.go (fun t => XS.iloadN X2.here hx rfl (hb hby dI2_16) rfl ) ?_
  show Goes p e below _ (T2.setTop (mkF m 17 #[.val (.ref o0), .val (.int (0 : Int32)), .val (.int c0)] [(.int c0)]))
  obtain ⟨_, _, ⟨T3, L3, k3, n3⟩, -, X3, ⟨Lc3, hQ3, l3, y3, z3⟩, st3⟩ := Jvm.LawKit.callS X2 hx (y := (⟨oXC, "isXmlCharacter", "(I)Z"⟩ : MethodName)) hown (mvT hZ (own_h hw 230 rfl)) (mvT hZ (own_h hw 231 rfl)) (mvT hZ (own_h hw 155 rfl)) (mvT hZ (own_h hw 232 rfl)) (by decide) (backOf (W := 0) (rmIX l Z a0 hw [] c0 h0 n0 Z0 hn0) hZ (own_h hw 232 rfl) (own_h hw 155 rfl) (by decide) (by decide)) (g := (mkF m 17 #[.val (.ref o0), .val (.int (0 : Int32)), .val (.int c0)] [(.int c0)])) rfl (by rw [hml]; rfl) (argsL := [(.int c0)]) (rest := []) (lenOf pdI2_2 rfl) rfl (by show 2 * 0 + _ ≤ _; exact Nat.le_of_eq rfl) (hb hby dI2_17) (fun _ _ => ⟨rfl, e2q, (by decide : 0 + 0 ≤ _), (by decide : 0 + 0 ≤ _)⟩)
  dsimp only [Pt.U, Pt.locs, Pt.cells, Pt.slots] at X3 l3 y3 z3 st3 hQ3
  subst l3 y3 z3
  obtain ⟨rfl, N3q, e3q⟩ := hQ3
  have N3 := Fr.app N2 N3q
  refine Goes.go st3 ?_
  show Goes p e below _ (T3.setTop (mkF m 20 #[.val (.ref o0), .val (.int (0 : Int32)), .val (.int c0)] [(.int (1 : Int32))]))
  refine Goes.go (fun t => XS.ifYes X3.here hx rfl (pc0 := 20) (pc' := 25) rfl (hb hby dI2_20) rfl (Jvm.Free.XT.i0_ne_t (by decide)) (by decide) (by decide)) ?_
  show Goes p e below _ (T3.setTop (mkF m 25 #[.val (.ref o0), .val (.int (0 : Int32)), .val (.int c0)] []))
  refine Goes.go (fun t => XS.iloadN X3.here hx rfl (hb hby dI2_25) rfl ) ?_
  refine Goes.go (fun t => XS.iloadN X3.here hx rfl (hb hby dI2_26) rfl ) ?_
  show Goes p e below _ (T3.setTop (mkF m 27 #[.val (.ref o0), .val (.int (0 : Int32)), .val (.int c0)] [(.int c0), (.int (0 : Int32))]))
  obtain ⟨_, _, ⟨T4, L4, k4, n4⟩, -, X4, ⟨Lc4, hQ4, l4, y4, z4⟩, st4⟩ := Jvm.LawKit.callS X3 hx (y := (⟨"java/lang/Character", "charCount", "(I)I"⟩ : MethodName)) hown (mvT hZ (own_h hw 234 rfl)) (mvT hZ (own_h hw 160 rfl)) (mvT hZ (own_h hw 122 rfl)) (mvT hZ (own_h hw 161 rfl)) (by decide) (backOf (W := 1) (rmCC l Z a0 hw [] c0 h0 n0 Z0 (own_small hn0.bd (by decide))) hZ (own_h hw 161 rfl) (own_h hw 122 rfl) (by decide) (by decide)) (g := (mkF m 27 #[.val (.ref o0), .val (.int (0 : Int32)), .val (.int c0)] [(.int c0), (.int (0 : Int32))])) rfl (by rw [hml]; rfl) (argsL := [(.int c0)]) (rest := [(.int (0 : Int32))]) (lenOf pdI2_1 rfl) rfl (by show 2 * 0 + _ ≤ _; exact Nat.le_of_eq rfl) (hb hby dI2_27) (fun _ _ => ⟨rfl, e3q, (by decide : 0 + 0 ≤ _), (by decide : 0 + 0 ≤ _)⟩)
  dsimp only [Pt.U, Pt.locs, Pt.cells, Pt.slots] at X4 l4 y4 z4 st4 hQ4
  subst l4 y4 z4
  obtain ⟨rfl, N4q, e4q⟩ := hQ4
  have N4 := Fr.app N3 N4q
  refine Goes.go st4 ?_
  show Goes p e below _ (T4.setTop (mkF m 30 #[.val (.ref o0), .val (.int (0 : Int32)), .val (.int c0)] [(.int (1 : Int32)), (.int (0 : Int32))]))
  refine Goes.go (fun t => XS.iadd X4.here hx rfl (hb hby dI2_30) rfl) ?_
  show Goes p e below _ (T4.setTop (mkF m 31 #[.val (.ref o0), .val (.int (0 : Int32)), .val (.int c0)] [(.int (1 : Int32))]))
  refine Goes.go (fun t => XS.istoreN X4.here hx rfl (hb hby dI2_31) rfl (l' := #[.val (.ref o0), .val (.int (1 : Int32)), .val (.int c0)]) rfl) ?_
  refine Goes.go (fun t => XS.goto X4.here hx rfl (pc0 := 32) (pc' := 2) rfl (hb hby dI2_32) (by decide) (by decide)) ?_
  refine Goes.go (fun t => XS.iloadN X4.here hx rfl (hb hby dI2_2) rfl ) ?_
  refine Goes.go (fun t => XS.aloadN X4.here hx rfl (hb hby dI2_3) rfl rfl ) ?_
  show Goes p e below _ (T4.setTop (mkF m 4 #[.val (.ref o0), .val (.int (1 : Int32)), .val (.int c0)] [(.ref o0), (.int (1 : Int32))]))
  obtain ⟨cq5, kq5, q5a, q5b, q5c⟩ := isOf hZ e4q E_s
  obtain ⟨_, _, ⟨T5, L5, k5, n5⟩, -, X5, ⟨Lc5, hQ5, l5, y5, z5⟩, st5⟩ := X4.virtualBack hx (y := (⟨"java/lang/String", "length", "()I"⟩ : MethodName)) (z := (⟨"java/lang/String", "length", "()I"⟩ : MethodName)) hown (mvT hZ (own_h hw 178 rfl)) (mvT hZ (own_h hw 179 rfl)) (notFace_of_selects (args := #[]) (mvT hZ (own_h hw 180 rfl))) (mvT hZ (own_h hw 180 rfl)) (mvT hZ (own_h hw 110 rfl)) (by decide) (StrChars.Road.lenW (W := 1) hZ (fun d hd => hw d (own_wLen d hd)) (kI := 4) (own_h hw 13 rfl) E_s F_v F_c A_v (own_cod hcs) (own_up hcs) S_z hz hl (by decide) (by decide)) q5a q5c (g := (mkF m 4 #[.val (.ref o0), .val (.int (1 : Int32)), .val (.int c0)] [(.ref o0), (.int (1 : Int32))])) rfl (by rw [hml]; rfl) (Steps.refl _) (argsL := []) (rest := [(.int (1 : Int32))]) (lenOf pdI2_0 rfl) rfl (by show 2 * 0 + _ ≤ _; exact Nat.le_of_eq rfl) (hb hby dI2_4) (fun _ _ => ⟨rfl, e4q, (by decide : 0 + 0 ≤ _), (by decide : 0 + 0 ≤ _)⟩)
  dsimp only [Pt.U, Pt.locs, Pt.cells, Pt.slots] at X5 l5 y5 z5 st5 hQ5
  subst l5 y5 z5
  obtain ⟨rfl, rfl, e5q⟩ := hQ5
  have N5q : Fr n0 ([] : List Loc) := Fr.nil n0
  have N5 := Fr.app N4 N5q
  refine Goes.via st5 ?_
  show Goes p e below _ (T5.setTop (mkF m 7 #[.val (.ref o0), .val (.int (1 : Int32)), .val (.int c0)] [(.int (2 : Int32)), (.int (1 : Int32))]))
  refine Goes.go (fun t => XS.icmpNo X5.here hx rfl (hb hby dI2_7) rfl (Jvm.Free.XT.ii_ge_f (by decide))) ?_
  show Goes p e below _ (T5.setTop (mkF m 10 #[.val (.ref o0), .val (.int (1 : Int32)), .val (.int c0)] []))
  refine Goes.go (fun t => XS.aloadN X5.here hx rfl (hb hby dI2_10) rfl rfl ) ?_
  refine Goes.go (fun t => XS.iloadN X5.here hx rfl (hb hby dI2_11) rfl ) ?_
  show Goes p e below _ (T5.setTop (mkF m 12 #[.val (.ref o0), .val (.int (1 : Int32)), .val (.int c0)] [(.int (1 : Int32)), (.ref o0)]))
  obtain ⟨cq6, kq6, q6a, q6b, q6c⟩ := isOf hZ e5q E_s
  obtain ⟨_, _, ⟨T6, L6, k6, n6⟩, -, X6, ⟨Lc6, hQ6, l6, y6, z6⟩, st6⟩ := X5.virtualBack hx (y := (⟨"java/lang/String", "codePointAt", "(I)I"⟩ : MethodName)) (z := (⟨"java/lang/String", "codePointAt", "(I)I"⟩ : MethodName)) hown (mvT hZ (own_h hw 224 rfl)) (mvT hZ (own_h hw 225 rfl)) (notFace_of_selects (args := #[]) (mvT hZ (own_h hw 227 rfl))) (mvT hZ (own_h hw 227 rfl)) (mvT hZ (own_h hw 226 rfl)) (by decide) (backOf (W := 0) (rmCP l Z a0 hw [] o0 (1 : Int32) z fm [c0, c1] 1 h0 n0 Z0 S S_z hz S_f rf (Nat.le_of_ble_eq_true rfl) (by decide) (show (1 : Int32) < Int32.ofNat 2 by decide) rfl) hZ (own_h hw 228 rfl) (own_h hw 14 rfl) (by decide) (by decide)) q6a q6c (g := (mkF m 12 #[.val (.ref o0), .val (.int (1 : Int32)), .val (.int c0)] [(.int (1 : Int32)), (.ref o0)])) rfl (by rw [hml]; rfl) (Steps.refl _) (argsL := [(.int (1 : Int32))]) (rest := []) (lenOf pdI2_1 rfl) rfl (by show 2 * 0 + _ ≤ _; exact Nat.le_of_eq rfl) (hb hby dI2_12) (fun _ _ => ⟨rfl, e5q, (by decide : 0 + 0 ≤ _), (by decide : 0 + 0 ≤ _)⟩)
  dsimp only [Pt.U, Pt.locs, Pt.cells, Pt.slots] at X6 l6 y6 z6 st6 hQ6
  subst l6 y6 z6
  obtain ⟨rfl, N6q, e6q⟩ := hQ6
  have N6 := Fr.app N5 N6q
  refine Goes.via st6 ?_
  show Goes p e below _ (T6.setTop (mkF m 15 #[.val (.ref o0), .val (.int (1 : Int32)), .val (.int c0)] [(.int c1)]))
  refine Goes.go (fun t => XS.istoreN X6.here hx rfl (hb hby dI2_15) rfl (l' := #[.val (.ref o0), .val (.int (1 : Int32)), .val (.int c1)]) rfl) ?_
  refine Goes.go (fun t => XS.iloadN X6.here hx rfl (hb hby dI2_16) rfl ) ?_
  show Goes p e below _ (T6.setTop (mkF m 17 #[.val (.ref o0), .val (.int (1 : Int32)), .val (.int c1)] [(.int c1)]))
  obtain ⟨_, _, ⟨T7, L7, k7, n7⟩, -, X7, ⟨Lc7, hQ7, l7, y7, z7⟩, st7⟩ := Jvm.LawKit.callS X6 hx (y := (⟨oXC, "isXmlCharacter", "(I)Z"⟩ : MethodName)) hown (mvT hZ (own_h hw 230 rfl)) (mvT hZ (own_h hw 231 rfl)) (mvT hZ (own_h hw 155 rfl)) (mvT hZ (own_h hw 232 rfl)) (by decide) (backOf (W := 0) (rmIX l Z a0 hw [] c1 h0 n0 Z0 hn1) hZ (own_h hw 232 rfl) (own_h hw 155 rfl) (by decide) (by decide)) (g := (mkF m 17 #[.val (.ref o0), .val (.int (1 : Int32)), .val (.int c1)] [(.int c1)])) rfl (by rw [hml]; rfl) (argsL := [(.int c1)]) (rest := []) (lenOf pdI2_2 rfl) rfl (by show 2 * 0 + _ ≤ _; exact Nat.le_of_eq rfl) (hb hby dI2_17) (fun _ _ => ⟨rfl, e6q, (by decide : 0 + 0 ≤ _), (by decide : 0 + 0 ≤ _)⟩)
  dsimp only [Pt.U, Pt.locs, Pt.cells, Pt.slots] at X7 l7 y7 z7 st7 hQ7
  subst l7 y7 z7
  obtain ⟨rfl, N7q, e7q⟩ := hQ7
  have N7 := Fr.app N6 N7q
  refine Goes.go st7 ?_
  show Goes p e below _ (T7.setTop (mkF m 20 #[.val (.ref o0), .val (.int (1 : Int32)), .val (.int c1)] [(.int (1 : Int32))]))
  refine Goes.go (fun t => XS.ifYes X7.here hx rfl (pc0 := 20) (pc' := 25) rfl (hb hby dI2_20) rfl (Jvm.Free.XT.i0_ne_t (by decide)) (by decide) (by decide)) ?_
  show Goes p e below _ (T7.setTop (mkF m 25 #[.val (.ref o0), .val (.int (1 : Int32)), .val (.int c1)] []))
  refine Goes.go (fun t => XS.iloadN X7.here hx rfl (hb hby dI2_25) rfl ) ?_
  refine Goes.go (fun t => XS.iloadN X7.here hx rfl (hb hby dI2_26) rfl ) ?_
  show Goes p e below _ (T7.setTop (mkF m 27 #[.val (.ref o0), .val (.int (1 : Int32)), .val (.int c1)] [(.int c1), (.int (1 : Int32))]))
  obtain ⟨_, _, ⟨T8, L8, k8, n8⟩, -, X8, ⟨Lc8, hQ8, l8, y8, z8⟩, st8⟩ := Jvm.LawKit.callS X7 hx (y := (⟨"java/lang/Character", "charCount", "(I)I"⟩ : MethodName)) hown (mvT hZ (own_h hw 234 rfl)) (mvT hZ (own_h hw 160 rfl)) (mvT hZ (own_h hw 122 rfl)) (mvT hZ (own_h hw 161 rfl)) (by decide) (backOf (W := 1) (rmCC l Z a0 hw [] c1 h0 n0 Z0 (own_small hn1.bd (by decide))) hZ (own_h hw 161 rfl) (own_h hw 122 rfl) (by decide) (by decide)) (g := (mkF m 27 #[.val (.ref o0), .val (.int (1 : Int32)), .val (.int c1)] [(.int c1), (.int (1 : Int32))])) rfl (by rw [hml]; rfl) (argsL := [(.int c1)]) (rest := [(.int (1 : Int32))]) (lenOf pdI2_1 rfl) rfl (by show 2 * 0 + _ ≤ _; exact Nat.le_of_eq rfl) (hb hby dI2_27) (fun _ _ => ⟨rfl, e7q, (by decide : 0 + 0 ≤ _), (by decide : 0 + 0 ≤ _)⟩)
  dsimp only [Pt.U, Pt.locs, Pt.cells, Pt.slots] at X8 l8 y8 z8 st8 hQ8
  subst l8 y8 z8
  obtain ⟨rfl, N8q, e8q⟩ := hQ8
  have N8 := Fr.app N7 N8q
  refine Goes.go st8 ?_
  show Goes p e below _ (T8.setTop (mkF m 30 #[.val (.ref o0), .val (.int (1 : Int32)), .val (.int c1)] [(.int (1 : Int32)), (.int (1 : Int32))]))
  refine Goes.go (fun t => XS.iadd X8.here hx rfl (hb hby dI2_30) rfl) ?_
  show Goes p e below _ (T8.setTop (mkF m 31 #[.val (.ref o0), .val (.int (1 : Int32)), .val (.int c1)] [(.int (2 : Int32))]))
  refine Goes.go (fun t => XS.istoreN X8.here hx rfl (hb hby dI2_31) rfl (l' := #[.val (.ref o0), .val (.int (2 : Int32)), .val (.int c1)]) rfl) ?_
  refine Goes.go (fun t => XS.goto X8.here hx rfl (pc0 := 32) (pc' := 2) rfl (hb hby dI2_32) (by decide) (by decide)) ?_
  refine Goes.go (fun t => XS.iloadN X8.here hx rfl (hb hby dI2_2) rfl ) ?_
  refine Goes.go (fun t => XS.aloadN X8.here hx rfl (hb hby dI2_3) rfl rfl ) ?_
  show Goes p e below _ (T8.setTop (mkF m 4 #[.val (.ref o0), .val (.int (2 : Int32)), .val (.int c1)] [(.ref o0), (.int (2 : Int32))]))
  obtain ⟨cq9, kq9, q9a, q9b, q9c⟩ := isOf hZ e8q E_s
  obtain ⟨_, _, ⟨T9, L9, k9, n9⟩, -, X9, ⟨Lc9, hQ9, l9, y9, z9⟩, st9⟩ := X8.virtualBack hx (y := (⟨"java/lang/String", "length", "()I"⟩ : MethodName)) (z := (⟨"java/lang/String", "length", "()I"⟩ : MethodName)) hown (mvT hZ (own_h hw 178 rfl)) (mvT hZ (own_h hw 179 rfl)) (notFace_of_selects (args := #[]) (mvT hZ (own_h hw 180 rfl))) (mvT hZ (own_h hw 180 rfl)) (mvT hZ (own_h hw 110 rfl)) (by decide) (StrChars.Road.lenW (W := 1) hZ (fun d hd => hw d (own_wLen d hd)) (kI := 4) (own_h hw 13 rfl) E_s F_v F_c A_v (own_cod hcs) (own_up hcs) S_z hz hl (by decide) (by decide)) q9a q9c (g := (mkF m 4 #[.val (.ref o0), .val (.int (2 : Int32)), .val (.int c1)] [(.ref o0), (.int (2 : Int32))])) rfl (by rw [hml]; rfl) (Steps.refl _) (argsL := []) (rest := [(.int (2 : Int32))]) (lenOf pdI2_0 rfl) rfl (by show 2 * 0 + _ ≤ _; exact Nat.le_of_eq rfl) (hb hby dI2_4) (fun _ _ => ⟨rfl, e8q, (by decide : 0 + 0 ≤ _), (by decide : 0 + 0 ≤ _)⟩)
  dsimp only [Pt.U, Pt.locs, Pt.cells, Pt.slots] at X9 l9 y9 z9 st9 hQ9
  subst l9 y9 z9
  obtain ⟨rfl, rfl, e9q⟩ := hQ9
  have N9q : Fr n0 ([] : List Loc) := Fr.nil n0
  have N9 := Fr.app N8 N9q
  refine Goes.via st9 ?_
  show Goes p e below _ (T9.setTop (mkF m 7 #[.val (.ref o0), .val (.int (2 : Int32)), .val (.int c1)] [(.int (2 : Int32)), (.int (2 : Int32))]))
  refine Goes.go (fun t => XS.icmpYes X9.here hx rfl (pc0 := 7) (pc' := 35) rfl (hb hby dI2_7) rfl (Jvm.Free.XT.ii_ge_t (by decide)) (by decide) (by decide)) ?_
  show Goes p e below _ (T9.setTop (mkF m 35 #[.val (.ref o0), .val (.int (2 : Int32)), .val (.int c1)] []))
  refine Goes.go (fun t => XS.iconst X9.here hx rfl (hb hby dI2_35)) ?_
  show Goes p e below _ (T9.setTop (mkF m 36 #[.val (.ref o0), .val (.int (2 : Int32)), .val (.int c1)] [(.int (-1 : Int32))]))
  exact Goes.out X9 (fun h => by rw [Bd.returns] at h; cases h) Bd.notSynchronized (fun fs hr => retI X9 hx Bd.returns (hb hby dI2_36) hr) ⟨rfl, N9, e9q⟩ (by decide) (by decide)
def QIN (Z : State) (o0 : Addr) (z : Int32) (fm : Value) (wS : Addr) (wN : Addr) (cS : Cell) (cN : Cell) (cs : List Int32) (h0 : Heap) (n0 : Nat) (v : Option Value) (h : Heap) (L : List Loc) : Prop := v = some (.int (-1)) ∧ Fr n0 L ∧ h = h0
set_option maxRecDepth 65536 in
set_option maxHeartbeats 40000000 in
theorem rmIN (l : Launch) (Z : State) (a0 : Array Value) (hw : ∀ d ∈ tables_1, d.before a0 Z = true) (ws : List Jvm.Cond) (o0 : Addr) (z : Int32) (fm : Value) (wS : Addr) (wN : Addr) (cS : Cell) (cN : Cell) (cs : List Int32) (h0 : Heap) (n0 : Nat) (Z0 : n0 ≤ h0.size) (V : own_env Z h0 z fm wS wN cS cN) (S : own_s Z h0 o0 cs) (hn : own_uri cs) :
    MetFree l (⟨oXC, "indexOfNonXmlCharacter", "(Ljava/lang/String;)I"⟩ : MethodName) (head1 (Jvm.Cond.code (⟨oXC, "indexOfNonXmlCharacter", "(Ljava/lang/String;)I"⟩ : MethodName) prog_228_method_6_code 3 (some .int) :: ws) (oR 3 0 0 41)) (fun a U => a = #[(.ref o0)] ∧ Z.Warmed39 U.vm ∧ U.heap = h0) (fun _ _ _ _ _ => True) (fun _ U o U' => ∃ v L, o = .returned v ∧ QIN Z o0 z fm wS wN cS cN cs h0 n0 v U'.heap L ∧ FrameEnd U o U' L (oR 3 0 0 41).cells (oR 3 0 0 41).slots) := by
  rcases hn with rfl | ⟨c0, rfl, hn0⟩ | ⟨c0, c1, rfl, hn0, hn1⟩
  · exact rmI0 l Z a0 hw ws o0 z fm wS wN cS cN h0 n0 Z0 V S
  · exact rmI1 l Z a0 hw ws o0 z fm wS wN cS cN c0 h0 n0 Z0 V S hn0
  · exact rmI2 l Z a0 hw ws o0 z fm wS wN cS cN c0 c1 h0 n0 Z0 V S hn0 hn1
theorem dXR_0 : decode prog_228_method_7_code 0 = .ok (.aload_n 1, 1) := by decide +kernel
theorem dXR_1 : decode prog_228_method_7_code 1 = .ok (.invokestatic 58, 3) := by decide +kernel
theorem dXR_4 : decode prog_228_method_7_code 4 = .ok (.istore_n 2, 1) := by decide +kernel
theorem dXR_5 : decode prog_228_method_7_code 5 = .ok (.iload_n 2, 1) := by decide +kernel
theorem dXR_6 : decode prog_228_method_7_code 6 = .ok (.ifCond .lt 49, 3) := by decide +kernel
theorem dXR_55 : decode prog_228_method_7_code 55 = .ok (.return_, 1) := by decide +kernel
theorem pn_XR : plainName oXC = true := by first | (simp [plainName, overriddenIn]; done) | decide +kernel
theorem pdXR_0 : parseMethodDescriptor "(Ljava/lang/String;)I" = some ⟨[(.object "java/lang/String")], some .int⟩ := by decide +kernel
theorem ef_XR (m : MethodId) (o0 : Addr) (o1 : Addr) : entryFrame m #[(.ref o0), (.ref o1)] 3 = mkF m 0 #[.val (.ref o0), .val (.ref o1), .unset] [] := by first | (simp [entryFrame, mkF, argsToLocals, Value.category]; done) | rfl
def QXR (Z : State) (o0 : Addr) (o1 : Addr) (z : Int32) (fm : Value) (wS : Addr) (wN : Addr) (cS : Cell) (cN : Cell) (cs : List Int32) (h0 : Heap) (n0 : Nat) (v : Option Value) (h : Heap) (L : List Loc) : Prop := v = none ∧ Fr n0 L ∧ h = h0
set_option maxRecDepth 65536 in
set_option maxHeartbeats 40000000 in
theorem rmXR (l : Launch) (Z : State) (a0 : Array Value) (hw : ∀ d ∈ tables_1, d.before a0 Z = true) (ws : List Jvm.Cond) (o0 : Addr) (o1 : Addr) (z : Int32) (fm : Value) (wS : Addr) (wN : Addr) (cS : Cell) (cN : Cell) (cs : List Int32) (h0 : Heap) (n0 : Nat) (Z0 : n0 ≤ h0.size) (V : own_env Z h0 z fm wS wN cS cN) (S : own_s Z h0 o1 cs) (hn : own_uri cs) :
    MetFree l (⟨oXC, "requireXmlCharacters", "(Ljava/lang/String;Ljava/lang/String;)V"⟩ : MethodName) (head1 (Jvm.Cond.code (⟨oXC, "requireXmlCharacters", "(Ljava/lang/String;Ljava/lang/String;)V"⟩ : MethodName) prog_228_method_7_code 3 none :: ws) (oR 4 0 0 55)) (fun a U => a = #[(.ref o0), (.ref o1)] ∧ Z.Warmed39 U.vm ∧ U.heap = h0) (fun _ _ _ _ _ => True) (fun _ U o U' => ∃ v L, o = .returned v ∧ QXR Z o0 o1 z fm wS wN cS cN cs h0 n0 v U'.heap L ∧ FrameEnd U o U' L (oR 4 0 0 55).cells (oR 4 0 0 55).slots) := by
  refine MetFree.of_bodySF (plainFor_of_name pn_XR) hisR ?_
  intro p e s m args below meth c s₁ Bd hml0 hP hK
  obtain ⟨rfl, hZ, hh⟩ := hP
  have hx := Bd.exec
  have hby := Bd.bytes
  have hml : c.maxLocals = 3 := hml0
  have hown : s.vm.findClass oXC = some m.cls := findClass_of_methodNamed Bd.named
  have hnm := (name_of_methodNamed Bd.named Bd.method).1
  have X0 : Stand p l e (oR 4 0 0 55) s m #[(.ref o0), (.ref o1)] below meth c s₁ [] 0 0 := Stand.of_body Bd
  have e0 : s₁.heap = h0 := by rw [← hh, Bd.state]; rfl
  have N0 := Fr.nil n0
  show Goes p e below (fun o U' => ∃ v L, o = .returned v ∧ QXR Z o0 o1 z fm wS wN cS cN cs h0 n0 v U'.heap L ∧ FrameEnd s o U' L (oR 4 0 0 55).cells (oR 4 0 0 55).slots) _
  refine Goes.go (fun t k => castTop (ef_XR m o0 o1) k) ?_
  show Goes p e below _ (s₁.setTop (mkF m 0 #[.val (.ref o0), .val (.ref o1), .unset] []))
  refine Goes.go (fun t => XS.aloadN X0.here hx rfl (hb hby dXR_0) rfl rfl ) ?_
  show Goes p e below _ (s₁.setTop (mkF m 1 #[.val (.ref o0), .val (.ref o1), .unset] [(.ref o1)]))
  obtain ⟨_, _, ⟨T1, L1, k1, n1⟩, -, X1, ⟨Lc1, hQ1, l1, y1, z1⟩, st1⟩ := Jvm.LawKit.callS X0 hx (y := (⟨oXC, "indexOfNonXmlCharacter", "(Ljava/lang/String;)I"⟩ : MethodName)) hown (mvT hZ (own_h hw 175 rfl)) (mvT hZ (own_h hw 176 rfl)) (mvT hZ (own_h hw 155 rfl)) (mvT hZ (own_h hw 177 rfl)) (by decide) (backOf (W := 0) (rmIN l Z a0 hw [] o1 z fm wS wN cS cN cs h0 n0 Z0 V S hn) hZ (own_h hw 177 rfl) (own_h hw 155 rfl) (by decide) (by decide)) (g := (mkF m 1 #[.val (.ref o0), .val (.ref o1), .unset] [(.ref o1)])) rfl (by rw [hml]; rfl) (argsL := [(.ref o1)]) (rest := []) (lenOf pdXR_0 rfl) rfl (by show 2 * 0 + _ ≤ _; exact Nat.le_of_eq rfl) (hb hby dXR_1) (fun _ _ => ⟨rfl, e0, (by decide : 0 + 0 ≤ _), (by decide : 0 + 0 ≤ _)⟩)
  dsimp only [Pt.U, Pt.locs, Pt.cells, Pt.slots] at X1 l1 y1 z1 st1 hQ1
  subst l1 y1 z1
  obtain ⟨rfl, N1q, e1q⟩ := hQ1
  have N1 := Fr.app N0 N1q
  refine Goes.go st1 ?_
  show Goes p e below _ (T1.setTop (mkF m 4 #[.val (.ref o0), .val (.ref o1), .unset] [(.int (-1 : Int32))]))
  refine Goes.go (fun t => XS.istoreN X1.here hx rfl (hb hby dXR_4) rfl (l' := #[.val (.ref o0), .val (.ref o1), .val (.int (-1 : Int32))]) rfl) ?_
  refine Goes.go (fun t => XS.iloadN X1.here hx rfl (hb hby dXR_5) rfl ) ?_
  show Goes p e below _ (T1.setTop (mkF m 6 #[.val (.ref o0), .val (.ref o1), .val (.int (-1 : Int32))] [(.int (-1 : Int32))]))
  refine Goes.go (fun t => XS.ifYes X1.here hx rfl (pc0 := 6) (pc' := 55) rfl (hb hby dXR_6) rfl (Jvm.Free.XT.i0_lt_t (by decide)) (by decide) (by decide)) ?_
  show Goes p e below _ (T1.setTop (mkF m 55 #[.val (.ref o0), .val (.ref o1), .val (.int (-1 : Int32))] []))
  exact Goes.out X1 (fun _ => rfl) Bd.notSynchronized (fun fs hr => X1.returnOut hx Bd.returns (hb hby dXR_55) hr) ⟨rfl, N1, e1q⟩ (by decide) (by decide)
theorem dRN_0 : decode jdk_31_method_11_code 0 = .ok (.aload_n 0, 1) := by decide +kernel
theorem dRN_1 : decode jdk_31_method_11_code 1 = .ok (.ifnonnull 12, 3) := by decide +kernel
theorem dRN_13 : decode jdk_31_method_11_code 13 = .ok (.aload_n 0, 1) := by decide +kernel
theorem dRN_14 : decode jdk_31_method_11_code 14 = .ok (.areturn, 1) := by decide +kernel
theorem pn_RN : plainName "java/util/Objects" = true := by first | (simp [plainName, overriddenIn]; done) | decide +kernel
theorem ef_RN (m : MethodId) (o0 : Addr) (o1 : Addr) : entryFrame m #[(.ref o0), (.ref o1)] 2 = mkF m 0 #[.val (.ref o0), .val (.ref o1)] [] := by first | (simp [entryFrame, mkF, argsToLocals, Value.category]; done) | rfl
def QRN (Z : State) (o0 : Addr) (o1 : Addr) (h0 : Heap) (n0 : Nat) (v : Option Value) (h : Heap) (L : List Loc) : Prop := v = some (.ref o0) ∧ Fr n0 L ∧ h = h0
set_option maxRecDepth 65536 in
set_option maxHeartbeats 40000000 in
theorem rmRN (l : Launch) (Z : State) (a0 : Array Value) (hw : ∀ d ∈ tables_1, d.before a0 Z = true) (ws : List Jvm.Cond) (o0 : Addr) (o1 : Addr) (h0 : Heap) (n0 : Nat) (Z0 : n0 ≤ h0.size) :
    MetFree l (⟨"java/util/Objects", "requireNonNull", "(Ljava/lang/Object;Ljava/lang/String;)Ljava/lang/Object;"⟩ : MethodName) (head1 (Jvm.Cond.code (⟨"java/util/Objects", "requireNonNull", "(Ljava/lang/Object;Ljava/lang/String;)Ljava/lang/Object;"⟩ : MethodName) jdk_31_method_11_code 2 (some (.object "java/lang/Object")) :: ws) (oR 0 0 0 0)) (fun a U => a = #[(.ref o0), (.ref o1)] ∧ Z.Warmed39 U.vm ∧ U.heap = h0) (fun _ _ _ _ _ => True) (fun _ U o U' => ∃ v L, o = .returned v ∧ QRN Z o0 o1 h0 n0 v U'.heap L ∧ FrameEnd U o U' L (oR 0 0 0 0).cells (oR 0 0 0 0).slots) := by
  refine MetFree.of_bodySF (plainFor_of_name pn_RN) hisR ?_
  intro p e s m args below meth c s₁ Bd hml0 hP hK
  obtain ⟨rfl, hZ, hh⟩ := hP
  have hx := Bd.exec
  have hby := Bd.bytes
  have hml : c.maxLocals = 2 := hml0
  have hown : s.vm.findClass "java/util/Objects" = some m.cls := findClass_of_methodNamed Bd.named
  have hnm := (name_of_methodNamed Bd.named Bd.method).1
  have X0 : Stand p l e (oR 0 0 0 0) s m #[(.ref o0), (.ref o1)] below meth c s₁ [] 0 0 := Stand.of_body Bd
  have e0 : s₁.heap = h0 := by rw [← hh, Bd.state]; rfl
  have N0 := Fr.nil n0
  show Goes p e below (fun o U' => ∃ v L, o = .returned v ∧ QRN Z o0 o1 h0 n0 v U'.heap L ∧ FrameEnd s o U' L (oR 0 0 0 0).cells (oR 0 0 0 0).slots) _
  refine Goes.go (fun t k => castTop (ef_RN m o0 o1) k) ?_
  show Goes p e below _ (s₁.setTop (mkF m 0 #[.val (.ref o0), .val (.ref o1)] []))
  refine Goes.go (fun t => XS.aloadN X0.here hx rfl (hb hby dRN_0) rfl rfl ) ?_
  show Goes p e below _ (s₁.setTop (mkF m 1 #[.val (.ref o0), .val (.ref o1)] [(.ref o0)]))
  refine Goes.go (fun t => XS.ifnonnullYes X0.here hx rfl (pc0 := 1) (pc' := 13) rfl (hb hby dRN_1) rfl (by decide) (by decide)) ?_
  show Goes p e below _ (s₁.setTop (mkF m 13 #[.val (.ref o0), .val (.ref o1)] []))
  refine Goes.go (fun t => XS.aloadN X0.here hx rfl (hb hby dRN_13) rfl rfl ) ?_
  show Goes p e below _ (s₁.setTop (mkF m 14 #[.val (.ref o0), .val (.ref o1)] [(.ref o0)]))
  exact Goes.out X0 (fun h => by rw [Bd.returns] at h; cases h) Bd.notSynchronized (fun fs hr => retOut X0 hx Bd.returns rfl (Or.inr (Or.inr (Or.inr (Or.inr ⟨rfl, rfl, rfl⟩)))) (hb hby dRN_14) hr) ⟨rfl, N0, e0⟩ (by decide) (by decide)

theorem own_narrow {C : String} {v : Value} : narrow (.object C) v = v := by cases v <;> rfl
theorem own_fits {C : String} {v : Value} (h : v.isRef = true) : fits (.object C) v = true := by rcases ref_cases h with rfl | ⟨a, rfl⟩ <;> rfl
theorem own_ext_trans {h1 h2 h3 : Heap} (A : Ext h1 h2) (B : Ext h2 h3) : Ext h1 h3 := ⟨Nat.le_trans A.1 B.1, fun a c q => B.2 _ _ (A.2 _ _ q)⟩
theorem own_ext_keep {hb h h' : Heap} {ws : List Addr} (B : Ext hb h) (K : Keep h h' ws) (g : ∀ x ∈ ws, hb.size ≤ x) : Ext hb h' :=
  ⟨Nat.le_trans B.1 K.1, fun a c q => K.2.1 a c (B.2 a c q) fun hm => absurd (Array.getElem?_eq_some_iff.mp q).1 (Nat.not_lt.mpr (g a hm))⟩
theorem own_ext_wr {hb h h' : Heap} {a : Addr} {sl : Nat} {v : Value} (B : Ext hb h) (W : Wr h h' a sl v) (g : hb.size ≤ a) : Ext hb h' := own_ext_keep B (Keep.of_wr W) (allS g all0)
theorem own_ext_of {h h' : Heap} (K : Keep h h' []) : Ext h h' := ⟨K.1, fun a c q => K.2.1 a c q nin0⟩
theorem own_keep_of {h h' : Heap} {ws : List Addr} (E : Ext h h') : Keep h h' ws := (Keep.refl h ws).ext E
/-! the constants whose texts are read -/
def own_EL : List (String × Nat) := [("java/lang/String", 7), (oEQ, 36)]
theorem own_wS {Z : State} {a0 : Array Value} (hw : ∀ d ∈ tables_1, d.before a0 Z = true) : ∀ d ∈ Bundle.stringAtoms, d.before a0 Z = true := fun d hd => hw d ((by decide +kernel : ∀ d ∈ Bundle.stringAtoms, d ∈ tables_1) d hd)
theorem Goes.outW {p : Program} {l : Launch} {e : Env} {R : Room} {s : State} {m : MethodId} {args : Array Value} {below : List Frame} {meth : Method} {c : Code} {T : State} {locs : List Loc} {cells slots : Nat} {vm₁ : Vm}
    (X : Stand p l e R (s.setVm vm₁) m args below meth c T locs cells slots) {n : Nat} (hS : s.Since vm₁ n) (hn : n ≤ T.heap.size) {v : Option Value} {g : JFrame} (hv : meth.sig.returnType = none → v = none) (hlocks : meth.locks = false)
    (hst : ∀ fs : List Frame, (∀ (f : JFrame) (acts : List Action), f.method = m → f.locked = none → f.entered = [] → (doReturn e (T.setTop f) acts v).1 = T.setFrames fs) → Steps p.tables e below (T.setTop g) (T.setFrames fs))
    {Qn : Option Value → Heap → List Loc → Prop} {C S : Nat} {Z : State} {EL : List (String × Nat)} (hq : Qn v T.heap locs) (hC : CHr Z EL s.vm s.heap T.vm T.heap) (h1 : cells ≤ C) (h2 : slots ≤ S) :
    Goes p e below (fun o U' => ∃ v L, o = .returned v ∧ Qn v U'.heap L ∧ CHr Z EL s.vm s.heap U'.vm U'.heap ∧ ReturnedEndW s o U' L C S) (T.setTop g) := by
  obtain ⟨fs, hr, hrun, hended, hW⟩ := (X.mono h1 h2).leaveW hS hn (v := v) hv hlocks
  exact ⟨_, _, hst fs hr, hrun, hended, _, _, rfl, hq, hC, hW⟩
/-- a callee that may load constants and is handed an object that isn't one of them -/
theorem own_backSF {p : Program} {l : Launch} {e : Env} {R : Room} {s : State} {args : Array Value} {below : List Frame} {Z : State} {a0 : Array Value} {EL : List (String × Nat)} {h : Heap} {vm0 : Vm} {x : Addr}
    {y : MethodName} {bytes : ByteArray} {maxL : Nat} {ret : Option FieldType} {rm : Room} {len W : Nat} {as' : Array Value} {Q : Option Value → Heap → List Loc → Prop}
    (hM : MetFree l y (head1 [Jvm.Cond.code y bytes maxL ret] rm) (fun a U => a = as' ∧ Z.Warmed39 U.vm ∧ U.heap = h ∧ CHv Z EL U.vm h ∧ Safe Z EL U.vm h x) (fun _ _ _ _ _ => True) (fun _ U o U' => ∃ v L, o = .returned v ∧ Q v U'.heap L ∧ CHr Z EL U.vm U.heap U'.vm U'.heap ∧ ReturnedEndW U o U' L rm.cells rm.slots))
    (hZ : Z.Warmed39 vm0) (wc : (Jvm.Cond.code y bytes maxL ret).before a0 Z = true) (wz : (Jvm.Cond.initialized y.cls).before a0 Z = true) (hf : rm.frames + 1 ≤ R.frames) (hl : W + (maxL + 11) + rm.locals ≤ R.locals) (hEL : EW Z a0 EL) (H : CHv Z EL vm0 h) (hlt : x < h.size) (hs : Safe Z EL vm0 h x) :
    BackS l R p e below (s.setVm vm0) args y len W (fun A a => a = as' ∧ A.U.heap = h ∧ A.cells + rm.cells ≤ R.cells ∧ A.slots + rm.slots ≤ R.slots)
      (fun A _ v B => ∃ L, Q v B.U.heap L ∧ B.locs = A.locs ++ L ∧ B.cells = A.cells + rm.cells ∧ B.slots = A.slots + rm.slots ∧ CHr Z EL vm0 h B.U.vm B.U.heap) :=
  BackS.of_freeW (bytes := bytes) (maxL := maxL) (ret := ret) (E := fun _ U o U' L k n => (k = rm.cells ∧ n = rm.slots) ∧ CHr Z EL U.vm U.heap U'.vm U'.heap ∧ ∃ v, o = .returned v ∧ Q v U'.heap L) hM hf hl
    (fun m meth c A a Y hp => by
      have hU : Z.Warmed39 A.U.vm := wtrans (s := s.setVm vm0) hZ Y.warmed
      have hcd := mv (args := a) hU wc
      refine ⟨?_, hcd, mv hU wz, hp.2.2.1, hp.2.2.2⟩
      show (Jvm.Cond.and _ .tt).before a A.U = true
      rw [Cond.before_and, hcd]; rfl)
    (fun m meth c A a g mk Y hp => by
      have q := CHv.at Y hZ hEL H
      exact ⟨hp.1, wtrans (s := s.setVm vm0) hZ Y.warmed, hp.2.1, q.1, q.safe hlt hs⟩)
    (fun _ _ _ _ _ _ _ _ _ => trivial)
    (fun _ _ _ _ hq => by obtain ⟨v, L, h1, h2, h3, h4⟩ := hq; exact ⟨L, _, _, h4, ⟨rfl, rfl⟩, h3, v, h1, h2⟩)
    (fun m meth c A a g mk v t L k n Y hp _ _ hq => by
      obtain ⟨⟨rfl, rfl⟩, h3, v', h1, h2⟩ := hq
      cases h1
      refine ⟨L, h2, rfl, rfl, rfl, (CHv.at Y hZ hEL H).trans ?_⟩
      have e1 := hp.2.1
      subst e1
      exact h3)
theorem own_selects {s : State} {args : Array Value} {y : MethodName} {k : Nat} (hy : y.cls ≠ "java/lang/invoke/MethodHandle" ∧ y.cls ≠ "java/lang/invoke/VarHandle") (wi : (Jvm.Cond.instantiable y.cls k).before args s = true) (wm : (Jvm.Cond.instanceMethod y).before args s = true) (wp : (Jvm.Cond.privateMethod y).before args s = true) : (Jvm.Cond.selects y.cls y y).before args s = true := by
  obtain ⟨m, meth, h1, h2, -, -⟩ := Cond.instanceMethod_spec wm
  obtain ⟨c, kc, i1, i2, -, i4, -⟩ := Cond.instantiable_spec wi
  have hf := State.methodFound?_of_named h1 hy
  have hc := findClass_of_methodNamed h1
  have hp := Cond.privateMethod_at wp m meth h1 h2
  have hs : selectMethod {} s.vm m.cls m = .method m := selectMethod_private h2 hp
  have e : m.cls = c := Option.some.inj (hc.symm.trans i1)
  have i5 : kc.isInterface = false := by simp only [Bool.or_eq_false_iff] at i4; exact i4.1
  rw [← e] at i2
  simp [Cond.before, Cond.holds, Cond.value, hc, hf, h1, hs, i2, i5]
/-! what the law's helpers answer -/
def own_kind (p : Int32) (wE : Addr) (kv : Value) : Prop := (p = 1 ∧ kv = .ref wE) ∨ (p = 7 ∧ kv = .null) ∨ (¬ p = 1 ∧ ¬ p = 7 ∧ ∃ w, kv = .ref w ∧ ¬ w = wE)
theorem own_ne {f : Addr → Option Value} {a b : Addr} {ka kb : Int32} (fa : f a = some (.int ka)) (fb : f b = some (.int kb)) (h : ka ≠ kb) : ¬ a = b := fun e => by
  subst e; rw [fa] at fb; exact h (Value.int.inj (Option.some.inj fb))
theorem own_nat {c : Int32} (h : 0 ≤ c.toInt) : Int32.ofNat c.toInt.toNat = c := by
  apply Int32.toInt_inj.mp
  have := Int32.toInt_lt c
  rw [Int32.toInt_ofNat_small (by omega)]; omega
theorem own_idx (p n : Int32) (hn : 0 < n.toInt) : 0 ≤ ((p &&& (2147483647 : Int32)) % n).toInt ∧ ((p &&& (2147483647 : Int32)) % n).toInt < n.toInt := by
  have h1 : (p &&& (2147483647 : Int32)).toInt = p.toInt % 2 ^ 31 := Jvm.Kit.i32_mask p 2147483647 (k := 31) (by decide) (by decide)
  have h2 : 0 ≤ (p &&& (2147483647 : Int32)).toInt := by rw [h1]; exact Int.emod_nonneg _ (by decide)
  rw [Jvm.Kit.i32_rem_nonneg h2]
  exact ⟨Int.emod_nonneg _ (by omega), Int.emod_lt_of_pos _ hn⟩
theorem own_fin {P : Int32 → Prop} {n : Nat} (t : ∀ k : Fin n, P (Int32.ofNat k.val)) {c : Int32} (h1 : 0 ≤ c.toInt) (h2 : c.toInt < (n : Int)) : P c := by
  have := t ⟨c.toInt.toNat, by omega⟩
  rwa [own_nat h1] at this
theorem own_xm (p : Int32) : own_ch (nar .char (((32 : Int32) + ((p &&& (2147483647 : Int32)) % (224 : Int32))).toUInt32.toUInt16.toUInt32.toInt32)) := by
  obtain ⟨h1, h2⟩ := own_idx p 224 (by decide)
  exact own_fin (P := fun c => own_ch (nar .char (((32 : Int32) + c).toUInt32.toUInt16.toUInt32.toInt32))) (n := 224) (by decide +kernel) h1 h2
theorem own_sr1 {c : Int32} (h1 : 0 ≤ c.toInt) (h2 : c < 26) : own_st (nar .char (((65 : Int32) + c).toUInt32.toUInt16.toUInt32.toInt32)) :=
  own_fin (P := fun c => own_st (nar .char (((65 : Int32) + c).toUInt32.toUInt16.toUInt32.toInt32))) (n := 26) (by decide +kernel) h1 (by rw [Int32.lt_iff_toInt_lt] at h2; exact h2)
theorem own_sr2 {c : Int32} (h1 : 0 ≤ c.toInt) (h0 : ¬ c < 26) (h2 : c < 52) : own_st (nar .char (((97 : Int32) + (c - (26 : Int32))).toUInt32.toUInt16.toUInt32.toInt32)) :=
  own_fin (P := fun c => ¬ c < 26 → own_st (nar .char (((97 : Int32) + (c - (26 : Int32))).toUInt32.toUInt16.toUInt32.toInt32))) (n := 52) (by decide +kernel) h1 (by rw [Int32.lt_iff_toInt_lt] at h2; exact h2) h0
theorem own_nr2 {c : Int32} (h1 : 0 ≤ c.toInt) (h0 : ¬ c < 53) (h2 : c < 63) : own_nm (nar .char (((48 : Int32) + (c - (53 : Int32))).toUInt32.toUInt16.toUInt32.toInt32)) :=
  own_fin (P := fun c => ¬ c < 53 → own_nm (nar .char (((48 : Int32) + (c - (53 : Int32))).toUInt32.toUInt16.toUInt32.toInt32))) (n := 63) (by decide +kernel) h1 (by rw [Int32.lt_iff_toInt_lt] at h2; exact h2) h0
theorem own_narch {c : Int32} (h : own_ch c) : nar .char c = c := by
  unfold own_ch at h
  exact own_fin (P := fun c => nar .char c = c) (n := 256) (by decide +kernel) (by omega) (by omega)
theorem own_nr1 {c : Int32} (h : own_st c) : own_nm (nar .char c) := by rw [own_narch h.ch]; exact Or.inl h
theorem own_k7 {p : Int32} (h1 : 0 ≤ p.toInt) (h2 : p.toInt < 8) (n0 : ¬ p = 0) (n1 : ¬ p = 1) (n2 : ¬ p = 2) (n3 : ¬ p = 3) (n4 : ¬ p = 4) (n5 : ¬ p = 5) (n6 : ¬ p = 6) : p = 7 := by
  simp only [← Int32.toInt_inj, Int32.reduceToInt] at *
  omega
/-! a namespace that may be null, a local name that may be null -/
def own_nsv (Z : State) (h : Heap) (v : Value) : Prop := v = .null ∨ ∃ x cs, v = .ref x ∧ own_s Z h x cs ∧ own_uri cs
def own_lnv (Z : State) (h : Heap) (v : Value) : Prop := v = .null ∨ ∃ x cs, v = .ref x ∧ own_s Z h x cs ∧ own_name cs
theorem own_nsv.ext {Z : State} {h h' : Heap} {v : Value} (E : Ext h h') (S : own_nsv Z h v) : own_nsv Z h' v := S.imp id fun ⟨x, cs, a, b, c⟩ => ⟨x, cs, a, b.ext E, c⟩
theorem own_lnv.ext {Z : State} {h h' : Heap} {v : Value} (E : Ext h h') (S : own_lnv Z h v) : own_lnv Z h' v := S.imp id fun ⟨x, cs, a, b, c⟩ => ⟨x, cs, a, b.ext E, c⟩
theorem own_nsv.isref {Z : State} {h : Heap} {v : Value} (S : own_nsv Z h v) : v.isRef = true := by rcases S with rfl | ⟨x, cs, rfl, -⟩ <;> rfl
theorem own_lnv.isref {Z : State} {h : Heap} {v : Value} (S : own_lnv Z h v) : v.isRef = true := by rcases S with rfl | ⟨x, cs, rfl, -⟩ <;> rfl

theorem own_ew {Z : State} {a0 : Array Value} (hw : ∀ d ∈ tables_1, d.before a0 Z = true) : EW Z a0 own_EL := EW.cons (own_h hw 89 rfl) (by simp) (EW.cons (own_h hw 183 rfl) (by simp) EW.nil)
theorem dKO_0 : decode method_2_code 0 = .ok (.iload_n 0, 1) := by decide +kernel
theorem dKO_1 : decode method_2_code 1 = .ok (.ifCond .ne 7, 3) := by decide +kernel
theorem dKO_4 : decode method_2_code 4 = .ok (.getstatic 7, 3) := by decide +kernel
theorem dKO_7 : decode method_2_code 7 = .ok (.areturn, 1) := by decide +kernel
theorem dKO_8 : decode method_2_code 8 = .ok (.iload_n 0, 1) := by decide +kernel
theorem dKO_9 : decode method_2_code 9 = .ok (.iconst 1, 1) := by decide +kernel
theorem dKO_10 : decode method_2_code 10 = .ok (.if_icmp .ne 7, 3) := by decide +kernel
theorem dKO_13 : decode method_2_code 13 = .ok (.getstatic 13, 3) := by decide +kernel
theorem dKO_16 : decode method_2_code 16 = .ok (.areturn, 1) := by decide +kernel
theorem dKO_17 : decode method_2_code 17 = .ok (.iload_n 0, 1) := by decide +kernel
theorem dKO_18 : decode method_2_code 18 = .ok (.iconst 2, 1) := by decide +kernel
theorem dKO_19 : decode method_2_code 19 = .ok (.if_icmp .ne 7, 3) := by decide +kernel
theorem dKO_22 : decode method_2_code 22 = .ok (.getstatic 16, 3) := by decide +kernel
theorem dKO_25 : decode method_2_code 25 = .ok (.areturn, 1) := by decide +kernel
theorem dKO_26 : decode method_2_code 26 = .ok (.iload_n 0, 1) := by decide +kernel
theorem dKO_27 : decode method_2_code 27 = .ok (.iconst 3, 1) := by decide +kernel
theorem dKO_28 : decode method_2_code 28 = .ok (.if_icmp .ne 7, 3) := by decide +kernel
theorem dKO_31 : decode method_2_code 31 = .ok (.getstatic 19, 3) := by decide +kernel
theorem dKO_34 : decode method_2_code 34 = .ok (.areturn, 1) := by decide +kernel
theorem dKO_35 : decode method_2_code 35 = .ok (.iload_n 0, 1) := by decide +kernel
theorem dKO_36 : decode method_2_code 36 = .ok (.iconst 4, 1) := by decide +kernel
theorem dKO_37 : decode method_2_code 37 = .ok (.if_icmp .ne 7, 3) := by decide +kernel
theorem dKO_40 : decode method_2_code 40 = .ok (.getstatic 22, 3) := by decide +kernel
theorem dKO_43 : decode method_2_code 43 = .ok (.areturn, 1) := by decide +kernel
theorem dKO_44 : decode method_2_code 44 = .ok (.iload_n 0, 1) := by decide +kernel
theorem dKO_45 : decode method_2_code 45 = .ok (.iconst 5, 1) := by decide +kernel
theorem dKO_46 : decode method_2_code 46 = .ok (.if_icmp .ne 7, 3) := by decide +kernel
theorem dKO_49 : decode method_2_code 49 = .ok (.getstatic 25, 3) := by decide +kernel
theorem dKO_52 : decode method_2_code 52 = .ok (.areturn, 1) := by decide +kernel
theorem dKO_53 : decode method_2_code 53 = .ok (.iload_n 0, 1) := by decide +kernel
theorem dKO_54 : decode method_2_code 54 = .ok (.bipush 6, 2) := by decide +kernel
theorem dKO_56 : decode method_2_code 56 = .ok (.if_icmp .ne 7, 3) := by decide +kernel
theorem dKO_59 : decode method_2_code 59 = .ok (.getstatic 28, 3) := by decide +kernel
theorem dKO_62 : decode method_2_code 62 = .ok (.areturn, 1) := by decide +kernel
theorem dKO_63 : decode method_2_code 63 = .ok (.aconst_null, 1) := by decide +kernel
theorem dKO_64 : decode method_2_code 64 = .ok (.areturn, 1) := by decide +kernel
theorem pn_KO : plainName "com/example/thames/thames/engine/NodeTestListedByTreePinLaw" = true := by first | (simp [plainName, overriddenIn]; done) | decide +kernel
theorem ef_KO (m : MethodId) (p0 : Int32) : entryFrame m #[(.int p0)] 1 = mkF m 0 #[.val (.int p0)] [] := by first | (simp [entryFrame, mkF, argsToLocals, Value.category]; done) | rfl
def QKO (Z : State) (p0 : Int32) (w_DOCUMENT : Addr) (w_ELEMENT : Addr) (w_ATTRIBUTE : Addr) (w_TEXT : Addr) (w_COMMENT : Addr) (w_PROCESSING_INSTRUCTION : Addr) (w_NAMESPACE : Addr) (f : Addr → Option Value) (h0 : Heap) (n0 : Nat) (v : Option Value) (h : Heap) (L : List Loc) : Prop := ∃ kv : Value, v = some kv ∧ Fr n0 L ∧ h = h0 ∧ own_kind p0 w_ELEMENT kv
set_option maxRecDepth 65536 in
set_option maxHeartbeats 40000000 in
theorem rmKO (l : Launch) (Z : State) (a0 : Array Value) (hw : ∀ d ∈ tables_1, d.before a0 Z = true) (ws : List Jvm.Cond) (p0 : Int32) (w_DOCUMENT : Addr) (w_ELEMENT : Addr) (w_ATTRIBUTE : Addr) (w_TEXT : Addr) (w_COMMENT : Addr) (w_PROCESSING_INSTRUCTION : Addr) (w_NAMESPACE : Addr) (f : Addr → Option Value) (h0 : Heap) (n0 : Nat) (Z0 : n0 ≤ h0.size) (S_DOCUMENT : Sta Z h0 oNK "DOCUMENT" "Lcom/example/thames/thames/model/NodeKind;" (.ref w_DOCUMENT)) (S_ELEMENT : Sta Z h0 oNK "ELEMENT" "Lcom/example/thames/thames/model/NodeKind;" (.ref w_ELEMENT)) (S_ATTRIBUTE : Sta Z h0 oNK "ATTRIBUTE" "Lcom/example/thames/thames/model/NodeKind;" (.ref w_ATTRIBUTE)) (S_TEXT : Sta Z h0 oNK "TEXT" "Lcom/example/thames/thames/model/NodeKind;" (.ref w_TEXT)) (S_COMMENT : Sta Z h0 oNK "COMMENT" "Lcom/example/thames/thames/model/NodeKind;" (.ref w_COMMENT)) (S_PROCESSING_INSTRUCTION : Sta Z h0 oNK "PROCESSING_INSTRUCTION" "Lcom/example/thames/thames/model/NodeKind;" (.ref w_PROCESSING_INSTRUCTION)) (S_NAMESPACE : Sta Z h0 oNK "NAMESPACE" "Lcom/example/thames/thames/model/NodeKind;" (.ref w_NAMESPACE)) (O_DOCUMENT : f w_DOCUMENT = some (.int (0 : Int32))) (O_ELEMENT : f w_ELEMENT = some (.int (1 : Int32))) (O_ATTRIBUTE : f w_ATTRIBUTE = some (.int (2 : Int32))) (O_TEXT : f w_TEXT = some (.int (3 : Int32))) (O_COMMENT : f w_COMMENT = some (.int (4 : Int32))) (O_PROCESSING_INSTRUCTION : f w_PROCESSING_INSTRUCTION = some (.int (5 : Int32))) (O_NAMESPACE : f w_NAMESPACE = some (.int (6 : Int32))) (h1 : 0 ≤ p0.toInt) (h2 : p0.toInt < 8) :
    MetFree l (⟨"com/example/thames/thames/engine/NodeTestListedByTreePinLaw", "kindOf", "(I)Lcom/example/thames/thames/model/NodeKind;"⟩ : MethodName) (head1 (Jvm.Cond.code (⟨"com/example/thames/thames/engine/NodeTestListedByTreePinLaw", "kindOf", "(I)Lcom/example/thames/thames/model/NodeKind;"⟩ : MethodName) method_2_code 1 (some (.object oNK)) :: ws) (oR 0 0 0 0)) (fun a U => a = #[(.int p0)] ∧ Z.Warmed39 U.vm ∧ U.heap = h0) (fun _ _ _ _ _ => True) (fun _ U o U' => ∃ v L, o = .returned v ∧ QKO Z p0 w_DOCUMENT w_ELEMENT w_ATTRIBUTE w_TEXT w_COMMENT w_PROCESSING_INSTRUCTION w_NAMESPACE f h0 n0 v U'.heap L ∧ FrameEnd U o U' L (oR 0 0 0 0).cells (oR 0 0 0 0).slots) := by
  refine MetFree.of_bodySF (plainFor_of_name pn_KO) hisR ?_
  intro p e s m args below meth c s₁ Bd hml0 hP hK
  obtain ⟨rfl, hZ, hh⟩ := hP
  have hx := Bd.exec
  have hby := Bd.bytes
  have hml : c.maxLocals = 1 := hml0
  have hown : s.vm.findClass "com/example/thames/thames/engine/NodeTestListedByTreePinLaw" = some m.cls := findClass_of_methodNamed Bd.named
  have hnm := (name_of_methodNamed Bd.named Bd.method).1
  have X0 : Stand p l e (oR 0 0 0 0) s m #[(.int p0)] below meth c s₁ [] 0 0 := Stand.of_body Bd
  have e0 : s₁.heap = h0 := by rw [← hh, Bd.state]; rfl
  have N0 := Fr.nil n0
  show Goes p e below (fun o U' => ∃ v L, o = .returned v ∧ QKO Z p0 w_DOCUMENT w_ELEMENT w_ATTRIBUTE w_TEXT w_COMMENT w_PROCESSING_INSTRUCTION w_NAMESPACE f h0 n0 v U'.heap L ∧ FrameEnd s o U' L (oR 0 0 0 0).cells (oR 0 0 0 0).slots) _
  refine Goes.go (fun t k => castTop (ef_KO m p0) k) ?_
  show Goes p e below _ (s₁.setTop (mkF m 0 #[.val (.int p0)] []))
  refine Goes.go (fun t => XS.iloadN X0.here hx rfl (hb hby dKO_0) rfl ) ?_
  show Goes p e below _ (s₁.setTop (mkF m 1 #[.val (.int p0)] [(.int p0)]))
  by_cases hc1 : p0 = (0 : Int32)
  · refine Goes.go (fun t => XS.ifNo X0.here hx rfl (hb hby dKO_1) rfl (Jvm.Free.XT.i0_ne_f hc1)) ?_
    show Goes p e below _ (s₁.setTop (mkF m 4 #[.val (.int p0)] []))
    obtain ⟨T1, X1, e1, st1⟩ := getS2 X0 hx hZ hown (host := "") (Or.inl (own_h hw 4 rfl)) Via.refl e0 S_DOCUMENT (g := (mkF m 4 #[.val (.int p0)] [])) rfl (hb hby dKO_4)
    refine Goes.go st1 ?_
    show Goes p e below _ (T1.setTop (mkF m 7 #[.val (.int p0)] [(.ref w_DOCUMENT)]))
    exact Goes.out X1 (fun h => by rw [Bd.returns] at h; cases h) Bd.notSynchronized (fun fs hr => retOut X1 hx Bd.returns rfl (Or.inr (Or.inr (Or.inr (Or.inr ⟨rfl, rfl, rfl⟩)))) (hb hby dKO_7) hr) ⟨_, rfl, N0, e1, Or.inr (Or.inr ⟨by rw [hc1]; decide, by rw [hc1]; decide, _, rfl, own_ne O_DOCUMENT O_ELEMENT (by decide)⟩)⟩ (by decide) (by decide)
  · refine Goes.go (fun t => XS.ifYes X0.here hx rfl (pc0 := 1) (pc' := 8) rfl (hb hby dKO_1) rfl (Jvm.Free.XT.i0_ne_t hc1) (by decide) (by decide)) ?_
    show Goes p e below _ (s₁.setTop (mkF m 8 #[.val (.int p0)] []))
    refine Goes.go (fun t => XS.iloadN X0.here hx rfl (hb hby dKO_8) rfl ) ?_
    refine Goes.go (fun t => XS.iconst X0.here hx rfl (hb hby dKO_9)) ?_
    show Goes p e below _ (s₁.setTop (mkF m 10 #[.val (.int p0)] [(.int (1 : Int32)), (.int p0)]))
    by_cases hc10 : p0 = (1 : Int32)
    · refine Goes.go (fun t => XS.icmpNo X0.here hx rfl (hb hby dKO_10) rfl (Jvm.Free.XT.ii_ne_f hc10)) ?_
      show Goes p e below _ (s₁.setTop (mkF m 13 #[.val (.int p0)] []))
      obtain ⟨T2, X2, e2, st2⟩ := getS2 X0 hx hZ hown (host := "") (Or.inl (own_h hw 94 rfl)) Via.refl e0 S_ELEMENT (g := (mkF m 13 #[.val (.int p0)] [])) rfl (hb hby dKO_13)
      refine Goes.go st2 ?_
      show Goes p e below _ (T2.setTop (mkF m 16 #[.val (.int p0)] [(.ref w_ELEMENT)]))
      exact Goes.out X2 (fun h => by rw [Bd.returns] at h; cases h) Bd.notSynchronized (fun fs hr => retOut X2 hx Bd.returns rfl (Or.inr (Or.inr (Or.inr (Or.inr ⟨rfl, rfl, rfl⟩)))) (hb hby dKO_16) hr) ⟨_, rfl, N0, e2, Or.inl ⟨hc10, rfl⟩⟩ (by decide) (by decide)
    · refine Goes.go (fun t => XS.icmpYes X0.here hx rfl (pc0 := 10) (pc' := 17) rfl (hb hby dKO_10) rfl (Jvm.Free.XT.ii_ne_t hc10) (by decide) (by decide)) ?_
      show Goes p e below _ (s₁.setTop (mkF m 17 #[.val (.int p0)] []))
      refine Goes.go (fun t => XS.iloadN X0.here hx rfl (hb hby dKO_17) rfl ) ?_
      refine Goes.go (fun t => XS.iconst X0.here hx rfl (hb hby dKO_18)) ?_
      show Goes p e below _ (s₁.setTop (mkF m 19 #[.val (.int p0)] [(.int (2 : Int32)), (.int p0)]))
      by_cases hc19 : p0 = (2 : Int32)
      · refine Goes.go (fun t => XS.icmpNo X0.here hx rfl (hb hby dKO_19) rfl (Jvm.Free.XT.ii_ne_f hc19)) ?_
        show Goes p e below _ (s₁.setTop (mkF m 22 #[.val (.int p0)] []))
        obtain ⟨T3, X3, e3, st3⟩ := getS2 X0 hx hZ hown (host := "") (Or.inl (own_h hw 85 rfl)) Via.refl e0 S_ATTRIBUTE (g := (mkF m 22 #[.val (.int p0)] [])) rfl (hb hby dKO_22)
        refine Goes.go st3 ?_
        show Goes p e below _ (T3.setTop (mkF m 25 #[.val (.int p0)] [(.ref w_ATTRIBUTE)]))
        exact Goes.out X3 (fun h => by rw [Bd.returns] at h; cases h) Bd.notSynchronized (fun fs hr => retOut X3 hx Bd.returns rfl (Or.inr (Or.inr (Or.inr (Or.inr ⟨rfl, rfl, rfl⟩)))) (hb hby dKO_25) hr) ⟨_, rfl, N0, e3, Or.inr (Or.inr ⟨by rw [hc19]; decide, by rw [hc19]; decide, _, rfl, own_ne O_ATTRIBUTE O_ELEMENT (by decide)⟩)⟩ (by decide) (by decide)
      · refine Goes.go (fun t => XS.icmpYes X0.here hx rfl (pc0 := 19) (pc' := 26) rfl (hb hby dKO_19) rfl (Jvm.Free.XT.ii_ne_t hc19) (by decide) (by decide)) ?_
        show Goes p e below _ (s₁.setTop (mkF m 26 #[.val (.int p0)] []))
        refine Goes.go (fun t => XS.iloadN X0.here hx rfl (hb hby dKO_26) rfl ) ?_
        refine Goes.go (fun t => XS.iconst X0.here hx rfl (hb hby dKO_27)) ?_
        show Goes p e below _ (s₁.setTop (mkF m 28 #[.val (.int p0)] [(.int (3 : Int32)), (.int p0)]))
        by_cases hc28 : p0 = (3 : Int32)
        · refine Goes.go (fun t => XS.icmpNo X0.here hx rfl (hb hby dKO_28) rfl (Jvm.Free.XT.ii_ne_f hc28)) ?_
          show Goes p e below _ (s₁.setTop (mkF m 31 #[.val (.int p0)] []))
          obtain ⟨T4, X4, e4, st4⟩ := getS2 X0 hx hZ hown (host := "") (Or.inl (own_h hw 92 rfl)) Via.refl e0 S_TEXT (g := (mkF m 31 #[.val (.int p0)] [])) rfl (hb hby dKO_31)
          refine Goes.go st4 ?_
          show Goes p e below _ (T4.setTop (mkF m 34 #[.val (.int p0)] [(.ref w_TEXT)]))
          exact Goes.out X4 (fun h => by rw [Bd.returns] at h; cases h) Bd.notSynchronized (fun fs hr => retOut X4 hx Bd.returns rfl (Or.inr (Or.inr (Or.inr (Or.inr ⟨rfl, rfl, rfl⟩)))) (hb hby dKO_34) hr) ⟨_, rfl, N0, e4, Or.inr (Or.inr ⟨by rw [hc28]; decide, by rw [hc28]; decide, _, rfl, own_ne O_TEXT O_ELEMENT (by decide)⟩)⟩ (by decide) (by decide)
        · refine Goes.go (fun t => XS.icmpYes X0.here hx rfl (pc0 := 28) (pc' := 35) rfl (hb hby dKO_28) rfl (Jvm.Free.XT.ii_ne_t hc28) (by decide) (by decide)) ?_
          show Goes p e below _ (s₁.setTop (mkF m 35 #[.val (.int p0)] []))
          refine Goes.go (fun t => XS.iloadN X0.here hx rfl (hb hby dKO_35) rfl ) ?_
          refine Goes.go (fun t => XS.iconst X0.here hx rfl (hb hby dKO_36)) ?_
          show Goes p e below _ (s₁.setTop (mkF m 37 #[.val (.int p0)] [(.int (4 : Int32)), (.int p0)]))
          by_cases hc37 : p0 = (4 : Int32)
          · refine Goes.go (fun t => XS.icmpNo X0.here hx rfl (hb hby dKO_37) rfl (Jvm.Free.XT.ii_ne_f hc37)) ?_
            show Goes p e below _ (s₁.setTop (mkF m 40 #[.val (.int p0)] []))
            obtain ⟨T5, X5, e5, st5⟩ := getS2 X0 hx hZ hown (host := "") (Or.inl (own_h hw 81 rfl)) Via.refl e0 S_COMMENT (g := (mkF m 40 #[.val (.int p0)] [])) rfl (hb hby dKO_40)
            refine Goes.go st5 ?_
            show Goes p e below _ (T5.setTop (mkF m 43 #[.val (.int p0)] [(.ref w_COMMENT)]))
            exact Goes.out X5 (fun h => by rw [Bd.returns] at h; cases h) Bd.notSynchronized (fun fs hr => retOut X5 hx Bd.returns rfl (Or.inr (Or.inr (Or.inr (Or.inr ⟨rfl, rfl, rfl⟩)))) (hb hby dKO_43) hr) ⟨_, rfl, N0, e5, Or.inr (Or.inr ⟨by rw [hc37]; decide, by rw [hc37]; decide, _, rfl, own_ne O_COMMENT O_ELEMENT (by decide)⟩)⟩ (by decide) (by decide)
          · refine Goes.go (fun t => XS.icmpYes X0.here hx rfl (pc0 := 37) (pc' := 44) rfl (hb hby dKO_37) rfl (Jvm.Free.XT.ii_ne_t hc37) (by decide) (by decide)) ?_
            show Goes p e below _ (s₁.setTop (mkF m 44 #[.val (.int p0)] []))
            refine Goes.go (fun t => XS.iloadN X0.here hx rfl (hb hby dKO_44) rfl ) ?_
            refine Goes.go (fun t => XS.iconst X0.here hx rfl (hb hby dKO_45)) ?_
            show Goes p e below _ (s₁.setTop (mkF m 46 #[.val (.int p0)] [(.int (5 : Int32)), (.int p0)]))
            by_cases hc46 : p0 = (5 : Int32)
            · refine Goes.go (fun t => XS.icmpNo X0.here hx rfl (hb hby dKO_46) rfl (Jvm.Free.XT.ii_ne_f hc46)) ?_
              show Goes p e below _ (s₁.setTop (mkF m 49 #[.val (.int p0)] []))
              obtain ⟨T6, X6, e6, st6⟩ := getS2 X0 hx hZ hown (host := "") (Or.inl (own_h hw 83 rfl)) Via.refl e0 S_PROCESSING_INSTRUCTION (g := (mkF m 49 #[.val (.int p0)] [])) rfl (hb hby dKO_49)
              refine Goes.go st6 ?_
              show Goes p e below _ (T6.setTop (mkF m 52 #[.val (.int p0)] [(.ref w_PROCESSING_INSTRUCTION)]))
              exact Goes.out X6 (fun h => by rw [Bd.returns] at h; cases h) Bd.notSynchronized (fun fs hr => retOut X6 hx Bd.returns rfl (Or.inr (Or.inr (Or.inr (Or.inr ⟨rfl, rfl, rfl⟩)))) (hb hby dKO_52) hr) ⟨_, rfl, N0, e6, Or.inr (Or.inr ⟨by rw [hc46]; decide, by rw [hc46]; decide, _, rfl, own_ne O_PROCESSING_INSTRUCTION O_ELEMENT (by decide)⟩)⟩ (by decide) (by decide)
            · refine Goes.go (fun t => XS.icmpYes X0.here hx rfl (pc0 := 46) (pc' := 53) rfl (hb hby dKO_46) rfl (Jvm.Free.XT.ii_ne_t hc46) (by decide) (by decide)) ?_
              show Goes p e below _ (s₁.setTop (mkF m 53 #[.val (.int p0)] []))
              refine Goes.go (fun t => XS.iloadN X0.here hx rfl (hb hby dKO_53) rfl ) ?_
              refine Goes.go (fun t => XS.bipush X0.here hx rfl (hb hby dKO_54)) ?_
              show Goes p e below _ (s₁.setTop (mkF m 56 #[.val (.int p0)] [(.int (6 : Int32)), (.int p0)]))
              by_cases hc56 : p0 = (6 : Int32)
              · refine Goes.go (fun t => XS.icmpNo X0.here hx rfl (hb hby dKO_56) rfl (Jvm.Free.XT.ii_ne_f hc56)) ?_
                show Goes p e below _ (s₁.setTop (mkF m 59 #[.val (.int p0)] []))
                obtain ⟨T7, X7, e7, st7⟩ := getS2 X0 hx hZ hown (host := "") (Or.inl (own_h hw 87 rfl)) Via.refl e0 S_NAMESPACE (g := (mkF m 59 #[.val (.int p0)] [])) rfl (hb hby dKO_59)
                refine Goes.go st7 ?_
                show Goes p e below _ (T7.setTop (mkF m 62 #[.val (.int p0)] [(.ref w_NAMESPACE)]))
                exact Goes.out X7 (fun h => by rw [Bd.returns] at h; cases h) Bd.notSynchronized (fun fs hr => retOut X7 hx Bd.returns rfl (Or.inr (Or.inr (Or.inr (Or.inr ⟨rfl, rfl, rfl⟩)))) (hb hby dKO_62) hr) ⟨_, rfl, N0, e7, Or.inr (Or.inr ⟨by rw [hc56]; decide, by rw [hc56]; decide, _, rfl, own_ne O_NAMESPACE O_ELEMENT (by decide)⟩)⟩ (by decide) (by decide)
              · refine Goes.go (fun t => XS.icmpYes X0.here hx rfl (pc0 := 56) (pc' := 63) rfl (hb hby dKO_56) rfl (Jvm.Free.XT.ii_ne_t hc56) (by decide) (by decide)) ?_
                show Goes p e below _ (s₁.setTop (mkF m 63 #[.val (.int p0)] []))
                refine Goes.go (fun t => XS.aconstNull X0.here hx rfl (hb hby dKO_63)) ?_
                show Goes p e below _ (s₁.setTop (mkF m 64 #[.val (.int p0)] [.null]))
                exact Goes.out X0 (fun h => by rw [Bd.returns] at h; cases h) Bd.notSynchronized (fun fs hr => retOut X0 hx Bd.returns rfl (Or.inr (Or.inr (Or.inr (Or.inr ⟨rfl, rfl, rfl⟩)))) (hb hby dKO_64) hr) ⟨_, rfl, N0, e0, Or.inr (Or.inl ⟨own_k7 h1 h2 hc1 hc10 hc19 hc28 hc37 hc46 hc56, rfl⟩)⟩ (by decide) (by decide)
theorem dXM_0 : decode method_3_code 0 = .ok (.bipush 32, 2) := by decide +kernel
theorem dXM_2 : decode method_3_code 2 = .ok (.iload_n 0, 1) := by decide +kernel
theorem dXM_3 : decode method_3_code 3 = .ok (.ldc 31, 2) := by decide +kernel
theorem dXM_5 : decode method_3_code 5 = .ok (.iand, 1) := by decide +kernel
theorem dXM_6 : decode method_3_code 6 = .ok (.sipush 224, 3) := by decide +kernel
theorem dXM_9 : decode method_3_code 9 = .ok (.irem, 1) := by decide +kernel
theorem dXM_10 : decode method_3_code 10 = .ok (.iadd, 1) := by decide +kernel
theorem dXM_11 : decode method_3_code 11 = .ok (.i2c, 1) := by decide +kernel
theorem dXM_12 : decode method_3_code 12 = .ok (.ireturn, 1) := by decide +kernel
theorem pn_XM : plainName "com/example/thames/thames/engine/NodeTestListedByTreePinLaw" = true := by first | (simp [plainName, overriddenIn]; done) | decide +kernel
theorem ef_XM (m : MethodId) (p0 : Int32) : entryFrame m #[(.int p0)] 1 = mkF m 0 #[.val (.int p0)] [] := by first | (simp [entryFrame, mkF, argsToLocals, Value.category]; done) | rfl
def QXM (Z : State) (p0 : Int32) (h0 : Heap) (n0 : Nat) (v : Option Value) (h : Heap) (L : List Loc) : Prop := ∃ c : Int32, v = some (.int c) ∧ Fr n0 L ∧ h = h0 ∧ own_ch c
set_option maxRecDepth 65536 in
set_option maxHeartbeats 40000000 in
theorem rmXM (l : Launch) (Z : State) (a0 : Array Value) (hw : ∀ d ∈ tables_1, d.before a0 Z = true) (ws : List Jvm.Cond) (p0 : Int32) (h0 : Heap) (n0 : Nat) (Z0 : n0 ≤ h0.size) :
    MetFree l (⟨"com/example/thames/thames/engine/NodeTestListedByTreePinLaw", "xmlChar", "(I)C"⟩ : MethodName) (head1 (Jvm.Cond.code (⟨"com/example/thames/thames/engine/NodeTestListedByTreePinLaw", "xmlChar", "(I)C"⟩ : MethodName) method_3_code 1 (some .char) :: ws) (oR 0 0 0 0)) (fun a U => a = #[(.int p0)] ∧ Z.Warmed39 U.vm ∧ U.heap = h0) (fun _ _ _ _ _ => True) (fun _ U o U' => ∃ v L, o = .returned v ∧ QXM Z p0 h0 n0 v U'.heap L ∧ FrameEnd U o U' L (oR 0 0 0 0).cells (oR 0 0 0 0).slots) := by
  refine MetFree.of_bodySF (plainFor_of_name pn_XM) hisR ?_
  intro p e s m args below meth c s₁ Bd hml0 hP hK
  obtain ⟨rfl, hZ, hh⟩ := hP
  have hx := Bd.exec
  have hby := Bd.bytes
  have hml : c.maxLocals = 1 := hml0
  have hown : s.vm.findClass "com/example/thames/thames/engine/NodeTestListedByTreePinLaw" = some m.cls := findClass_of_methodNamed Bd.named
  have hnm := (name_of_methodNamed Bd.named Bd.method).1
  have X0 : Stand p l e (oR 0 0 0 0) s m #[(.int p0)] below meth c s₁ [] 0 0 := Stand.of_body Bd
  have e0 : s₁.heap = h0 := by rw [← hh, Bd.state]; rfl
  have N0 := Fr.nil n0
  show Goes p e below (fun o U' => ∃ v L, o = .returned v ∧ QXM Z p0 h0 n0 v U'.heap L ∧ FrameEnd s o U' L (oR 0 0 0 0).cells (oR 0 0 0 0).slots) _
  refine Goes.go (fun t k => castTop (ef_XM m p0) k) ?_
  show Goes p e below _ (s₁.setTop (mkF m 0 #[.val (.int p0)] []))
  refine Goes.go (fun t => XS.bipush X0.here hx rfl (hb hby dXM_0)) ?_
  refine Goes.go (fun t => XS.iloadN X0.here hx rfl (hb hby dXM_2) rfl ) ?_
  show Goes p e below _ (s₁.setTop (mkF m 3 #[.val (.int p0)] [(.int p0), (.int (32 : Int32))]))
  refine Goes.go (fun t => X0.ldcI hx hown (mvT hZ (own_h hw 11 rfl)) rfl (hb hby dXM_3)) ?_
  show Goes p e below _ (s₁.setTop (mkF m 5 #[.val (.int p0)] [(.int (2147483647 : Int32)), (.int p0), (.int (32 : Int32))]))
  refine Goes.go (fun t => XS.iand X0.here hx rfl (hb hby dXM_5) rfl) ?_
  refine Goes.go (fun t => XS.sipush X0.here hx rfl (hb hby dXM_6)) ?_
  show Goes p e below _ (s₁.setTop (mkF m 9 #[.val (.int p0)] [(.int (224 : Int32)), (.int (p0 &&& (2147483647 : Int32))), (.int (32 : Int32))]))
  refine Goes.go (fun t => iremM X0 hx rfl (hb hby dXM_9) rfl (by decide)) ?_
  show Goes p e below _ (s₁.setTop (mkF m 10 #[.val (.int p0)] [(.int ((p0 &&& (2147483647 : Int32)) % (224 : Int32))), (.int (32 : Int32))]))
  refine Goes.go (fun t => XS.iadd X0.here hx rfl (hb hby dXM_10) rfl) ?_
  show Goes p e below _ (s₁.setTop (mkF m 11 #[.val (.int p0)] [(.int ((32 : Int32) + ((p0 &&& (2147483647 : Int32)) % (224 : Int32))))]))
  refine Goes.go (fun t => XS.i2c X0.here hx rfl (hb hby dXM_11) rfl) ?_
  show Goes p e below _ (s₁.setTop (mkF m 12 #[.val (.int p0)] [(.int (((32 : Int32) + ((p0 &&& (2147483647 : Int32)) % (224 : Int32))).toUInt32.toUInt16.toUInt32.toInt32))]))
  exact Goes.out X0 (fun h => by rw [Bd.returns] at h; cases h) Bd.notSynchronized (fun fs hr => retN X0 hx (t := .char) Bd.returns (by simp) (hb hby dXM_12) hr) ⟨_, rfl, N0, e0, own_xm p0⟩ (by decide) (by decide)
theorem dSR_0 : decode method_4_code 0 = .ok (.iload_n 0, 1) := by decide +kernel
theorem dSR_1 : decode method_4_code 1 = .ok (.ldc 31, 2) := by decide +kernel
theorem dSR_3 : decode method_4_code 3 = .ok (.iand, 1) := by decide +kernel
theorem dSR_4 : decode method_4_code 4 = .ok (.bipush 53, 2) := by decide +kernel
theorem dSR_6 : decode method_4_code 6 = .ok (.irem, 1) := by decide +kernel
theorem dSR_7 : decode method_4_code 7 = .ok (.istore_n 1, 1) := by decide +kernel
theorem dSR_8 : decode method_4_code 8 = .ok (.iload_n 1, 1) := by decide +kernel
theorem dSR_9 : decode method_4_code 9 = .ok (.bipush 26, 2) := by decide +kernel
theorem dSR_11 : decode method_4_code 11 = .ok (.if_icmp .ge 9, 3) := by decide +kernel
theorem dSR_14 : decode method_4_code 14 = .ok (.bipush 65, 2) := by decide +kernel
theorem dSR_16 : decode method_4_code 16 = .ok (.iload_n 1, 1) := by decide +kernel
theorem dSR_17 : decode method_4_code 17 = .ok (.iadd, 1) := by decide +kernel
theorem dSR_18 : decode method_4_code 18 = .ok (.i2c, 1) := by decide +kernel
theorem dSR_19 : decode method_4_code 19 = .ok (.ireturn, 1) := by decide +kernel
theorem dSR_20 : decode method_4_code 20 = .ok (.iload_n 1, 1) := by decide +kernel
theorem dSR_21 : decode method_4_code 21 = .ok (.bipush 52, 2) := by decide +kernel
theorem dSR_23 : decode method_4_code 23 = .ok (.if_icmp .ge 12, 3) := by decide +kernel
theorem dSR_26 : decode method_4_code 26 = .ok (.bipush 97, 2) := by decide +kernel
theorem dSR_28 : decode method_4_code 28 = .ok (.iload_n 1, 1) := by decide +kernel
theorem dSR_29 : decode method_4_code 29 = .ok (.bipush 26, 2) := by decide +kernel
theorem dSR_31 : decode method_4_code 31 = .ok (.isub, 1) := by decide +kernel
theorem dSR_32 : decode method_4_code 32 = .ok (.iadd, 1) := by decide +kernel
theorem dSR_33 : decode method_4_code 33 = .ok (.i2c, 1) := by decide +kernel
theorem dSR_34 : decode method_4_code 34 = .ok (.ireturn, 1) := by decide +kernel
theorem dSR_35 : decode method_4_code 35 = .ok (.bipush 95, 2) := by decide +kernel
theorem dSR_37 : decode method_4_code 37 = .ok (.ireturn, 1) := by decide +kernel
theorem pn_SR : plainName "com/example/thames/thames/engine/NodeTestListedByTreePinLaw" = true := by first | (simp [plainName, overriddenIn]; done) | decide +kernel
theorem ef_SR (m : MethodId) (p0 : Int32) : entryFrame m #[(.int p0)] 2 = mkF m 0 #[.val (.int p0), .unset] [] := by first | (simp [entryFrame, mkF, argsToLocals, Value.category]; done) | rfl
def QSR (Z : State) (p0 : Int32) (h0 : Heap) (n0 : Nat) (v : Option Value) (h : Heap) (L : List Loc) : Prop := ∃ c : Int32, v = some (.int c) ∧ Fr n0 L ∧ h = h0 ∧ own_st c
set_option maxRecDepth 65536 in
set_option maxHeartbeats 40000000 in
theorem rmSR (l : Launch) (Z : State) (a0 : Array Value) (hw : ∀ d ∈ tables_1, d.before a0 Z = true) (ws : List Jvm.Cond) (p0 : Int32) (h0 : Heap) (n0 : Nat) (Z0 : n0 ≤ h0.size) :
    MetFree l (⟨"com/example/thames/thames/engine/NodeTestListedByTreePinLaw", "startChar", "(I)C"⟩ : MethodName) (head1 (Jvm.Cond.code (⟨"com/example/thames/thames/engine/NodeTestListedByTreePinLaw", "startChar", "(I)C"⟩ : MethodName) method_4_code 2 (some .char) :: ws) (oR 0 0 0 0)) (fun a U => a = #[(.int p0)] ∧ Z.Warmed39 U.vm ∧ U.heap = h0) (fun _ _ _ _ _ => True) (fun _ U o U' => ∃ v L, o = .returned v ∧ QSR Z p0 h0 n0 v U'.heap L ∧ FrameEnd U o U' L (oR 0 0 0 0).cells (oR 0 0 0 0).slots) := by
  refine MetFree.of_bodySF (plainFor_of_name pn_SR) hisR ?_
  intro p e s m args below meth c s₁ Bd hml0 hP hK
  obtain ⟨rfl, hZ, hh⟩ := hP
  have hx := Bd.exec
  have hby := Bd.bytes
  have hml : c.maxLocals = 2 := hml0
  have hown : s.vm.findClass "com/example/thames/thames/engine/NodeTestListedByTreePinLaw" = some m.cls := findClass_of_methodNamed Bd.named
  have hnm := (name_of_methodNamed Bd.named Bd.method).1
  have X0 : Stand p l e (oR 0 0 0 0) s m #[(.int p0)] below meth c s₁ [] 0 0 := Stand.of_body Bd
  have e0 : s₁.heap = h0 := by rw [← hh, Bd.state]; rfl
  have N0 := Fr.nil n0
  show Goes p e below (fun o U' => ∃ v L, o = .returned v ∧ QSR Z p0 h0 n0 v U'.heap L ∧ FrameEnd s o U' L (oR 0 0 0 0).cells (oR 0 0 0 0).slots) _
  refine Goes.go (fun t k => castTop (ef_SR m p0) k) ?_
  show Goes p e below _ (s₁.setTop (mkF m 0 #[.val (.int p0), .unset] []))
  refine Goes.go (fun t => XS.iloadN X0.here hx rfl (hb hby dSR_0) rfl ) ?_
  show Goes p e below _ (s₁.setTop (mkF m 1 #[.val (.int p0), .unset] [(.int p0)]))
  refine Goes.go (fun t => X0.ldcI hx hown (mvT hZ (own_h hw 11 rfl)) rfl (hb hby dSR_1)) ?_
  show Goes p e below _ (s₁.setTop (mkF m 3 #[.val (.int p0), .unset] [(.int (2147483647 : Int32)), (.int p0)]))
  refine Goes.go (fun t => XS.iand X0.here hx rfl (hb hby dSR_3) rfl) ?_
  refine Goes.go (fun t => XS.bipush X0.here hx rfl (hb hby dSR_4)) ?_
  show Goes p e below _ (s₁.setTop (mkF m 6 #[.val (.int p0), .unset] [(.int (53 : Int32)), (.int (p0 &&& (2147483647 : Int32)))]))
  refine Goes.go (fun t => iremM X0 hx rfl (hb hby dSR_6) rfl (by decide)) ?_
  show Goes p e below _ (s₁.setTop (mkF m 7 #[.val (.int p0), .unset] [(.int ((p0 &&& (2147483647 : Int32)) % (53 : Int32)))]))
  refine Goes.go (fun t => XS.istoreN X0.here hx rfl (hb hby dSR_7) rfl (l' := #[.val (.int p0), .val (.int ((p0 &&& (2147483647 : Int32)) % (53 : Int32)))]) rfl) ?_
  refine Goes.go (fun t => XS.iloadN X0.here hx rfl (hb hby dSR_8) rfl ) ?_
  refine Goes.go (fun t => XS.bipush X0.here hx rfl (hb hby dSR_9)) ?_
  show Goes p e below _ (s₁.setTop (mkF m 11 #[.val (.int p0), .val (.int ((p0 &&& (2147483647 : Int32)) % (53 : Int32)))] [(.int (26 : Int32)), (.int ((p0 &&& (2147483647 : Int32)) % (53 : Int32)))]))
  by_cases hc11 : ((p0 &&& (2147483647 : Int32)) % (53 : Int32)) < (26 : Int32)
  · refine Goes.go (fun t => XS.icmpNo X0.here hx rfl (hb hby dSR_11) rfl (Jvm.Free.XT.ii_ge_f hc11)) ?_
    show Goes p e below _ (s₁.setTop (mkF m 14 #[.val (.int p0), .val (.int ((p0 &&& (2147483647 : Int32)) % (53 : Int32)))] []))
    refine Goes.go (fun t => XS.bipush X0.here hx rfl (hb hby dSR_14)) ?_
    refine Goes.go (fun t => XS.iloadN X0.here hx rfl (hb hby dSR_16) rfl ) ?_
    refine Goes.go (fun t => XS.iadd X0.here hx rfl (hb hby dSR_17) rfl) ?_
    show Goes p e below _ (s₁.setTop (mkF m 18 #[.val (.int p0), .val (.int ((p0 &&& (2147483647 : Int32)) % (53 : Int32)))] [(.int ((65 : Int32) + ((p0 &&& (2147483647 : Int32)) % (53 : Int32))))]))
    refine Goes.go (fun t => XS.i2c X0.here hx rfl (hb hby dSR_18) rfl) ?_
    show Goes p e below _ (s₁.setTop (mkF m 19 #[.val (.int p0), .val (.int ((p0 &&& (2147483647 : Int32)) % (53 : Int32)))] [(.int (((65 : Int32) + ((p0 &&& (2147483647 : Int32)) % (53 : Int32))).toUInt32.toUInt16.toUInt32.toInt32))]))
    exact Goes.out X0 (fun h => by rw [Bd.returns] at h; cases h) Bd.notSynchronized (fun fs hr => retN X0 hx (t := .char) Bd.returns (by simp) (hb hby dSR_19) hr) ⟨_, rfl, N0, e0, own_sr1 (own_idx p0 53 (by decide)).1 hc11⟩ (by decide) (by decide)
  · refine Goes.go (fun t => XS.icmpYes X0.here hx rfl (pc0 := 11) (pc' := 20) rfl (hb hby dSR_11) rfl (Jvm.Free.XT.ii_ge_t hc11) (by decide) (by decide)) ?_
    show Goes p e below _ (s₁.setTop (mkF m 20 #[.val (.int p0), .val (.int ((p0 &&& (2147483647 : Int32)) % (53 : Int32)))] []))
    refine Goes.go (fun t => XS.iloadN X0.here hx rfl (hb hby dSR_20) rfl ) ?_
    refine Goes.go (fun t => XS.bipush X0.here hx rfl (hb hby dSR_21)) ?_
    show Goes p e below _ (s₁.setTop (mkF m 23 #[.val (.int p0), .val (.int ((p0 &&& (2147483647 : Int32)) % (53 : Int32)))] [(.int (52 : Int32)), (.int ((p0 &&& (2147483647 : Int32)) % (53 : Int32)))]))
    by_cases hc23 : ((p0 &&& (2147483647 : Int32)) % (53 : Int32)) < (52 : Int32)
    · refine Goes.go (fun t => XS.icmpNo X0.here hx rfl (hb hby dSR_23) rfl (Jvm.Free.XT.ii_ge_f hc23)) ?_
      show Goes p e below _ (s₁.setTop (mkF m 26 #[.val (.int p0), .val (.int ((p0 &&& (2147483647 : Int32)) % (53 : Int32)))] []))
      refine Goes.go (fun t => XS.bipush X0.here hx rfl (hb hby dSR_26)) ?_
      refine Goes.go (fun t => XS.iloadN X0.here hx rfl (hb hby dSR_28) rfl ) ?_
      refine Goes.go (fun t => XS.bipush X0.here hx rfl (hb hby dSR_29)) ?_
      refine Goes.go (fun t => XS.isub X0.here hx rfl (hb hby dSR_31) rfl) ?_
      show Goes p e below _ (s₁.setTop (mkF m 32 #[.val (.int p0), .val (.int ((p0 &&& (2147483647 : Int32)) % (53 : Int32)))] [(.int (((p0 &&& (2147483647 : Int32)) % (53 : Int32)) - (26 : Int32))), (.int (97 : Int32))]))
      refine Goes.go (fun t => XS.iadd X0.here hx rfl (hb hby dSR_32) rfl) ?_
      show Goes p e below _ (s₁.setTop (mkF m 33 #[.val (.int p0), .val (.int ((p0 &&& (2147483647 : Int32)) % (53 : Int32)))] [(.int ((97 : Int32) + (((p0 &&& (2147483647 : Int32)) % (53 : Int32)) - (26 : Int32))))]))
      refine Goes.go (fun t => XS.i2c X0.here hx rfl (hb hby dSR_33) rfl) ?_
      show Goes p e below _ (s₁.setTop (mkF m 34 #[.val (.int p0), .val (.int ((p0 &&& (2147483647 : Int32)) % (53 : Int32)))] [(.int (((97 : Int32) + (((p0 &&& (2147483647 : Int32)) % (53 : Int32)) - (26 : Int32))).toUInt32.toUInt16.toUInt32.toInt32))]))
      exact Goes.out X0 (fun h => by rw [Bd.returns] at h; cases h) Bd.notSynchronized (fun fs hr => retN X0 hx (t := .char) Bd.returns (by simp) (hb hby dSR_34) hr) ⟨_, rfl, N0, e0, own_sr2 (own_idx p0 53 (by decide)).1 hc11 hc23⟩ (by decide) (by decide)
    · refine Goes.go (fun t => XS.icmpYes X0.here hx rfl (pc0 := 23) (pc' := 35) rfl (hb hby dSR_23) rfl (Jvm.Free.XT.ii_ge_t hc23) (by decide) (by decide)) ?_
      show Goes p e below _ (s₁.setTop (mkF m 35 #[.val (.int p0), .val (.int ((p0 &&& (2147483647 : Int32)) % (53 : Int32)))] []))
      refine Goes.go (fun t => XS.bipush X0.here hx rfl (hb hby dSR_35)) ?_
      show Goes p e below _ (s₁.setTop (mkF m 37 #[.val (.int p0), .val (.int ((p0 &&& (2147483647 : Int32)) % (53 : Int32)))] [(.int (95 : Int32))]))
      exact Goes.out X0 (fun h => by rw [Bd.returns] at h; cases h) Bd.notSynchronized (fun fs hr => retN X0 hx (t := .char) Bd.returns (by simp) (hb hby dSR_37) hr) ⟨_, rfl, N0, e0, (by decide)⟩ (by decide) (by decide)
theorem dNR_0 : decode method_5_code 0 = .ok (.iload_n 0, 1) := by decide +kernel
theorem dNR_1 : decode method_5_code 1 = .ok (.ldc 31, 2) := by decide +kernel
theorem dNR_3 : decode method_5_code 3 = .ok (.iand, 1) := by decide +kernel
theorem dNR_4 : decode method_5_code 4 = .ok (.bipush 64, 2) := by decide +kernel
theorem dNR_6 : decode method_5_code 6 = .ok (.irem, 1) := by decide +kernel
theorem dNR_7 : decode method_5_code 7 = .ok (.istore_n 1, 1) := by decide +kernel
theorem dNR_8 : decode method_5_code 8 = .ok (.iload_n 1, 1) := by decide +kernel
theorem dNR_9 : decode method_5_code 9 = .ok (.bipush 53, 2) := by decide +kernel
theorem dNR_11 : decode method_5_code 11 = .ok (.if_icmp .ge 8, 3) := by decide +kernel
theorem dNR_14 : decode method_5_code 14 = .ok (.iload_n 1, 1) := by decide +kernel
theorem dNR_15 : decode method_5_code 15 = .ok (.invokestatic 32, 3) := by decide +kernel
theorem dNR_18 : decode method_5_code 18 = .ok (.ireturn, 1) := by decide +kernel
theorem dNR_19 : decode method_5_code 19 = .ok (.iload_n 1, 1) := by decide +kernel
theorem dNR_20 : decode method_5_code 20 = .ok (.bipush 63, 2) := by decide +kernel
theorem dNR_22 : decode method_5_code 22 = .ok (.if_icmp .ge 12, 3) := by decide +kernel
theorem dNR_25 : decode method_5_code 25 = .ok (.bipush 48, 2) := by decide +kernel
theorem dNR_27 : decode method_5_code 27 = .ok (.iload_n 1, 1) := by decide +kernel
theorem dNR_28 : decode method_5_code 28 = .ok (.bipush 53, 2) := by decide +kernel
theorem dNR_30 : decode method_5_code 30 = .ok (.isub, 1) := by decide +kernel
theorem dNR_31 : decode method_5_code 31 = .ok (.iadd, 1) := by decide +kernel
theorem dNR_32 : decode method_5_code 32 = .ok (.i2c, 1) := by decide +kernel
theorem dNR_33 : decode method_5_code 33 = .ok (.ireturn, 1) := by decide +kernel
theorem dNR_34 : decode method_5_code 34 = .ok (.bipush 45, 2) := by decide +kernel
theorem dNR_36 : decode method_5_code 36 = .ok (.ireturn, 1) := by decide +kernel
theorem pn_NR : plainName "com/example/thames/thames/engine/NodeTestListedByTreePinLaw" = true := by first | (simp [plainName, overriddenIn]; done) | decide +kernel
theorem pdNR_0 : parseMethodDescriptor "(I)C" = some ⟨[.int], some .char⟩ := by decide +kernel
theorem ef_NR (m : MethodId) (p0 : Int32) : entryFrame m #[(.int p0)] 2 = mkF m 0 #[.val (.int p0), .unset] [] := by first | (simp [entryFrame, mkF, argsToLocals, Value.category]; done) | rfl
def QNR (Z : State) (p0 : Int32) (h0 : Heap) (n0 : Nat) (v : Option Value) (h : Heap) (L : List Loc) : Prop := ∃ c : Int32, v = some (.int c) ∧ Fr n0 L ∧ h = h0 ∧ own_nm c
set_option maxRecDepth 65536 in
set_option maxHeartbeats 40000000 in
theorem rmNR (l : Launch) (Z : State) (a0 : Array Value) (hw : ∀ d ∈ tables_1, d.before a0 Z = true) (ws : List Jvm.Cond) (p0 : Int32) (h0 : Heap) (n0 : Nat) (Z0 : n0 ≤ h0.size) :
    MetFree l (⟨"com/example/thames/thames/engine/NodeTestListedByTreePinLaw", "nameChar", "(I)C"⟩ : MethodName) (head1 (Jvm.Cond.code (⟨"com/example/thames/thames/engine/NodeTestListedByTreePinLaw", "nameChar", "(I)C"⟩ : MethodName) method_5_code 2 (some .char) :: ws) (oR 1 0 0 13)) (fun a U => a = #[(.int p0)] ∧ Z.Warmed39 U.vm ∧ U.heap = h0) (fun _ _ _ _ _ => True) (fun _ U o U' => ∃ v L, o = .returned v ∧ QNR Z p0 h0 n0 v U'.heap L ∧ FrameEnd U o U' L (oR 1 0 0 13).cells (oR 1 0 0 13).slots) := by
  refine MetFree.of_bodySF (plainFor_of_name pn_NR) hisR ?_
  intro p e s m args below meth c s₁ Bd hml0 hP hK
  obtain ⟨rfl, hZ, hh⟩ := hP
  have hx := Bd.exec
  have hby := Bd.bytes
  have hml : c.maxLocals = 2 := hml0
  have hown : s.vm.findClass "com/example/thames/thames/engine/NodeTestListedByTreePinLaw" = some m.cls := findClass_of_methodNamed Bd.named
  have hnm := (name_of_methodNamed Bd.named Bd.method).1
  have X0 : Stand p l e (oR 1 0 0 13) s m #[(.int p0)] below meth c s₁ [] 0 0 := Stand.of_body Bd
  have e0 : s₁.heap = h0 := by rw [← hh, Bd.state]; rfl
  have N0 := Fr.nil n0
  show Goes p e below (fun o U' => ∃ v L, o = .returned v ∧ QNR Z p0 h0 n0 v U'.heap L ∧ FrameEnd s o U' L (oR 1 0 0 13).cells (oR 1 0 0 13).slots) _
  refine Goes.go (fun t k => castTop (ef_NR m p0) k) ?_
  show Goes p e below _ (s₁.setTop (mkF m 0 #[.val (.int p0), .unset] []))
  refine Goes.go (fun t => XS.iloadN X0.here hx rfl (hb hby dNR_0) rfl ) ?_
  show Goes p e below _ (s₁.setTop (mkF m 1 #[.val (.int p0), .unset] [(.int p0)]))
  refine Goes.go (fun t => X0.ldcI hx hown (mvT hZ (own_h hw 11 rfl)) rfl (hb hby dNR_1)) ?_
  show Goes p e below _ (s₁.setTop (mkF m 3 #[.val (.int p0), .unset] [(.int (2147483647 : Int32)), (.int p0)]))
  refine Goes.go (fun t => XS.iand X0.here hx rfl (hb hby dNR_3) rfl) ?_
  refine Goes.go (fun t => XS.bipush X0.here hx rfl (hb hby dNR_4)) ?_
  show Goes p e below _ (s₁.setTop (mkF m 6 #[.val (.int p0), .unset] [(.int (64 : Int32)), (.int (p0 &&& (2147483647 : Int32)))]))
  refine Goes.go (fun t => iremM X0 hx rfl (hb hby dNR_6) rfl (by decide)) ?_
  show Goes p e below _ (s₁.setTop (mkF m 7 #[.val (.int p0), .unset] [(.int ((p0 &&& (2147483647 : Int32)) % (64 : Int32)))]))
  refine Goes.go (fun t => XS.istoreN X0.here hx rfl (hb hby dNR_7) rfl (l' := #[.val (.int p0), .val (.int ((p0 &&& (2147483647 : Int32)) % (64 : Int32)))]) rfl) ?_
  refine Goes.go (fun t => XS.iloadN X0.here hx rfl (hb hby dNR_8) rfl ) ?_
  refine Goes.go (fun t => XS.bipush X0.here hx rfl (hb hby dNR_9)) ?_
  show Goes p e below _ (s₁.setTop (mkF m 11 #[.val (.int p0), .val (.int ((p0 &&& (2147483647 : Int32)) % (64 : Int32)))] [(.int (53 : Int32)), (.int ((p0 &&& (2147483647 : Int32)) % (64 : Int32)))]))
  by_cases hc11 : ((p0 &&& (2147483647 : Int32)) % (64 : Int32)) < (53 : Int32)
  · refine Goes.go (fun t => XS.icmpNo X0.here hx rfl (hb hby dNR_11) rfl (Jvm.Free.XT.ii_ge_f hc11)) ?_
    show Goes p e below _ (s₁.setTop (mkF m 14 #[.val (.int p0), .val (.int ((p0 &&& (2147483647 : Int32)) % (64 : Int32)))] []))
    refine Goes.go (fun t => XS.iloadN X0.here hx rfl (hb hby dNR_14) rfl ) ?_
    show Goes p e below _ (s₁.setTop (mkF m 15 #[.val (.int p0), .val (.int ((p0 &&& (2147483647 : Int32)) % (64 : Int32)))] [(.int ((p0 &&& (2147483647 : Int32)) % (64 : Int32)))]))
    obtain ⟨_, _, ⟨T1, L1, k1, n1⟩, -, X1, ⟨Lc1, hQ1, l1, y1, z1⟩, st1⟩ := Jvm.LawKit.callS X0 hx (y := (⟨"com/example/thames/thames/engine/NodeTestListedByTreePinLaw", "startChar", "(I)C"⟩ : MethodName)) hown (mvT hZ (own_h hw 42 rfl)) (mvT hZ (own_h hw 43 rfl)) (mvT hZ (own_h hw 2 rfl)) (mvT hZ (own_h hw 44 rfl)) (by decide) (backOf (W := 0) (rmSR l Z a0 hw [] ((p0 &&& (2147483647 : Int32)) % (64 : Int32)) h0 n0 Z0) hZ (own_h hw 44 rfl) (own_h hw 2 rfl) (by decide) (by decide)) (g := (mkF m 15 #[.val (.int p0), .val (.int ((p0 &&& (2147483647 : Int32)) % (64 : Int32)))] [(.int ((p0 &&& (2147483647 : Int32)) % (64 : Int32)))])) rfl (by rw [hml]; rfl) (argsL := [(.int ((p0 &&& (2147483647 : Int32)) % (64 : Int32)))]) (rest := []) (lenOf pdNR_0 rfl) rfl (by show 2 * 0 + _ ≤ _; exact Nat.le_of_eq rfl) (hb hby dNR_15) (fun _ _ => ⟨rfl, e0, (by decide : 0 + 0 ≤ _), (by decide : 0 + 0 ≤ _)⟩)
    dsimp only [Pt.U, Pt.locs, Pt.cells, Pt.slots] at X1 l1 y1 z1 st1 hQ1
    subst l1 y1 z1
    obtain ⟨cc, rfl, N1q, e1q, hcc⟩ := hQ1
    have N1 := Fr.app N0 N1q
    refine Goes.go st1 ?_
    show Goes p e below _ (T1.setTop (mkF m 18 #[.val (.int p0), .val (.int ((p0 &&& (2147483647 : Int32)) % (64 : Int32)))] [(.int cc)]))
    exact Goes.out X1 (fun h => by rw [Bd.returns] at h; cases h) Bd.notSynchronized (fun fs hr => retN X1 hx (t := .char) Bd.returns (by simp) (hb hby dNR_18) hr) ⟨_, rfl, N1, e1q, own_nr1 hcc⟩ (by decide) (by decide)
  · refine Goes.go (fun t => XS.icmpYes X0.here hx rfl (pc0 := 11) (pc' := 19) rfl (hb hby dNR_11) rfl (Jvm.Free.XT.ii_ge_t hc11) (by decide) (by decide)) ?_
    show Goes p e below _ (s₁.setTop (mkF m 19 #[.val (.int p0), .val (.int ((p0 &&& (2147483647 : Int32)) % (64 : Int32)))] []))
    refine Goes.go (fun t => XS.iloadN X0.here hx rfl (hb hby dNR_19) rfl ) ?_
    refine Goes.go (fun t => XS.bipush X0.here hx rfl (hb hby dNR_20)) ?_
    show Goes p e below _ (s₁.setTop (mkF m 22 #[.val (.int p0), .val (.int ((p0 &&& (2147483647 : Int32)) % (64 : Int32)))] [(.int (63 : Int32)), (.int ((p0 &&& (2147483647 : Int32)) % (64 : Int32)))]))
    by_cases hc22 : ((p0 &&& (2147483647 : Int32)) % (64 : Int32)) < (63 : Int32)
    · refine Goes.go (fun t => XS.icmpNo X0.here hx rfl (hb hby dNR_22) rfl (Jvm.Free.XT.ii_ge_f hc22)) ?_
      show Goes p e below _ (s₁.setTop (mkF m 25 #[.val (.int p0), .val (.int ((p0 &&& (2147483647 : Int32)) % (64 : Int32)))] []))
      refine Goes.go (fun t => XS.bipush X0.here hx rfl (hb hby dNR_25)) ?_
      refine Goes.go (fun t => XS.iloadN X0.here hx rfl (hb hby dNR_27) rfl ) ?_
      refine Goes.go (fun t => XS.bipush X0.here hx rfl (hb hby dNR_28)) ?_
      refine Goes.go (fun t => XS.isub X0.here hx rfl (hb hby dNR_30) rfl) ?_
      show Goes p e below _ (s₁.setTop (mkF m 31 #[.val (.int p0), .val (.int ((p0 &&& (2147483647 : Int32)) % (64 : Int32)))] [(.int (((p0 &&& (2147483647 : Int32)) % (64 : Int32)) - (53 : Int32))), (.int (48 : Int32))]))
      refine Goes.go (fun t => XS.iadd X0.here hx rfl (hb hby dNR_31) rfl) ?_
      show Goes p e below _ (s₁.setTop (mkF m 32 #[.val (.int p0), .val (.int ((p0 &&& (2147483647 : Int32)) % (64 : Int32)))] [(.int ((48 : Int32) + (((p0 &&& (2147483647 : Int32)) % (64 : Int32)) - (53 : Int32))))]))
      refine Goes.go (fun t => XS.i2c X0.here hx rfl (hb hby dNR_32) rfl) ?_
      show Goes p e below _ (s₁.setTop (mkF m 33 #[.val (.int p0), .val (.int ((p0 &&& (2147483647 : Int32)) % (64 : Int32)))] [(.int (((48 : Int32) + (((p0 &&& (2147483647 : Int32)) % (64 : Int32)) - (53 : Int32))).toUInt32.toUInt16.toUInt32.toInt32))]))
      exact Goes.out X0 (fun h => by rw [Bd.returns] at h; cases h) Bd.notSynchronized (fun fs hr => retN X0 hx (t := .char) Bd.returns (by simp) (hb hby dNR_33) hr) ⟨_, rfl, N0, e0, own_nr2 (own_idx p0 64 (by decide)).1 hc11 hc22⟩ (by decide) (by decide)
    · refine Goes.go (fun t => XS.icmpYes X0.here hx rfl (pc0 := 22) (pc' := 34) rfl (hb hby dNR_22) rfl (Jvm.Free.XT.ii_ge_t hc22) (by decide) (by decide)) ?_
      show Goes p e below _ (s₁.setTop (mkF m 34 #[.val (.int p0), .val (.int ((p0 &&& (2147483647 : Int32)) % (64 : Int32)))] []))
      refine Goes.go (fun t => XS.bipush X0.here hx rfl (hb hby dNR_34)) ?_
      show Goes p e below _ (s₁.setTop (mkF m 36 #[.val (.int p0), .val (.int ((p0 &&& (2147483647 : Int32)) % (64 : Int32)))] [(.int (45 : Int32))]))
      exact Goes.out X0 (fun h => by rw [Bd.returns] at h; cases h) Bd.notSynchronized (fun fs hr => retN X0 hx (t := .char) Bd.returns (by simp) (hb hby dNR_36) hr) ⟨_, rfl, N0, e0, (by decide)⟩ (by decide) (by decide)
theorem dTE_0 : decode prog_106_method_5_code 0 = .ok (.aload_n 0, 1) := by decide +kernel
theorem dTE_1 : decode prog_106_method_5_code 1 = .ok (.getfield 12, 3) := by decide +kernel
theorem dTE_4 : decode prog_106_method_5_code 4 = .ok (.getstatic 50, 3) := by decide +kernel
theorem dTE_7 : decode prog_106_method_5_code 7 = .ok (.if_acmp .ne 21, 3) := by decide +kernel
theorem dTE_10 : decode prog_106_method_5_code 10 = .ok (.aload_n 0, 1) := by decide +kernel
theorem dTE_11 : decode prog_106_method_5_code 11 = .ok (.getfield 23, 3) := by decide +kernel
theorem dTE_14 : decode prog_106_method_5_code 14 = .ok (.ifnonnull 14, 3) := by decide +kernel
theorem dTE_17 : decode prog_106_method_5_code 17 = .ok (.aload_n 0, 1) := by decide +kernel
theorem dTE_18 : decode prog_106_method_5_code 18 = .ok (.getfield 27, 3) := by decide +kernel
theorem dTE_21 : decode prog_106_method_5_code 21 = .ok (.ifnonnull 7, 3) := by decide +kernel
theorem dTE_24 : decode prog_106_method_5_code 24 = .ok (.iconst 1, 1) := by decide +kernel
theorem dTE_25 : decode prog_106_method_5_code 25 = .ok (.goto 4, 3) := by decide +kernel
theorem dTE_29 : decode prog_106_method_5_code 29 = .ok (.ireturn, 1) := by decide +kernel
theorem pn_TE : plainName oNT = true := by first | (simp [plainName, overriddenIn]; done) | decide +kernel
theorem ef_TE (m : MethodId) (o0 : Addr) : entryFrame m #[(.ref o0)] 1 = mkF m 0 #[.val (.ref o0)] [] := by first | (simp [entryFrame, mkF, argsToLocals, Value.category]; done) | rfl
def QTE (Z : State) (o0 : Addr) (wE : Addr) (h0 : Heap) (n0 : Nat) (v : Option Value) (h : Heap) (L : List Loc) : Prop := v = some (.int 1) ∧ Fr n0 L ∧ h = h0
set_option maxRecDepth 65536 in
set_option maxHeartbeats 40000000 in
theorem rmTE (l : Launch) (Z : State) (a0 : Array Value) (hw : ∀ d ∈ tables_1, d.before a0 Z = true) (ws : List Jvm.Cond) (o0 : Addr) (wE : Addr) (h0 : Heap) (n0 : Nat) (Z0 : n0 ≤ h0.size) (F_kind : Fld Z h0 o0 oNT "kind" "Lcom/example/thames/thames/model/NodeKind;" (.ref wE)) (F_type : Fld Z h0 o0 oNT "type" "Lcom/example/thames/thames/model/SchemaType;" .null) (F_elementTest : Fld Z h0 o0 oNT "elementTest" "Lcom/example/thames/thames/engine/NodeTest;" .null) (S_E : Sta Z h0 oNK "ELEMENT" "Lcom/example/thames/thames/model/NodeKind;" (.ref wE)) :
    MetFree l (⟨oNT, "testsElementNameAlone", "()Z"⟩ : MethodName) (head1 (Jvm.Cond.code (⟨oNT, "testsElementNameAlone", "()Z"⟩ : MethodName) prog_106_method_5_code 1 (some .boolean) :: ws) (oR 0 0 0 0)) (fun a U => a = #[(.ref o0)] ∧ Z.Warmed39 U.vm ∧ U.heap = h0) (fun _ _ _ _ _ => True) (fun _ U o U' => ∃ v L, o = .returned v ∧ QTE Z o0 wE h0 n0 v U'.heap L ∧ FrameEnd U o U' L (oR 0 0 0 0).cells (oR 0 0 0 0).slots) := by
  refine MetFree.of_bodySF (plainFor_of_name pn_TE) hisR ?_
  intro p e s m args below meth c s₁ Bd hml0 hP hK
  obtain ⟨rfl, hZ, hh⟩ := hP
  have hx := Bd.exec
  have hby := Bd.bytes
  have hml : c.maxLocals = 1 := hml0
  have hown : s.vm.findClass oNT = some m.cls := findClass_of_methodNamed Bd.named
  have hnm := (name_of_methodNamed Bd.named Bd.method).1
  have X0 : Stand p l e (oR 0 0 0 0) s m #[(.ref o0)] below meth c s₁ [] 0 0 := Stand.of_body Bd
  have e0 : s₁.heap = h0 := by rw [← hh, Bd.state]; rfl
  have N0 := Fr.nil n0
  show Goes p e below (fun o U' => ∃ v L, o = .returned v ∧ QTE Z o0 wE h0 n0 v U'.heap L ∧ FrameEnd s o U' L (oR 0 0 0 0).cells (oR 0 0 0 0).slots) _
  refine Goes.go (fun t k => castTop (ef_TE m o0) k) ?_
  show Goes p e below _ (s₁.setTop (mkF m 0 #[.val (.ref o0)] []))
  refine Goes.go (fun t => XS.aloadN X0.here hx rfl (hb hby dTE_0) rfl rfl ) ?_
  show Goes p e below _ (s₁.setTop (mkF m 1 #[.val (.ref o0)] [(.ref o0)]))
  obtain ⟨T1, X1, e1, st1⟩ := getF X0 hx hZ hown (host := "") (Or.inl (own_h hw 58 rfl)) Via.refl e0 F_kind (g := (mkF m 1 #[.val (.ref o0)] [(.ref o0)])) rfl rfl (hb hby dTE_1)
  refine Goes.go st1 ?_
  show Goes p e below _ (T1.setTop (mkF m 4 #[.val (.ref o0)] [(.ref wE)]))
  obtain ⟨T2, X2, e2, st2⟩ := getS2 X1 hx hZ hown (host := "") (Or.inl (own_h hw 72 rfl)) Via.refl e1 S_E (g := (mkF m 4 #[.val (.ref o0)] [(.ref wE)])) rfl (hb hby dTE_4)
  refine Goes.go st2 ?_
  show Goes p e below _ (T2.setTop (mkF m 7 #[.val (.ref o0)] [(.ref wE), (.ref wE)]))
  refine Goes.go (fun t => Jvm.RoadKit.acmp (g := (mkF m 7 #[.val (.ref o0)] [(.ref wE), (.ref wE)])) X2 hx rfl rfl rfl (pc0 := 7) (pc' := 10) (same := true) rfl (hb hby dTE_7) rfl (decide_eq_true rfl) (by decide) (by decide)) ?_
  show Goes p e below _ (T2.setTop (mkF m 10 #[.val (.ref o0)] []))
  refine Goes.go (fun t => XS.aloadN X2.here hx rfl (hb hby dTE_10) rfl rfl ) ?_
  show Goes p e below _ (T2.setTop (mkF m 11 #[.val (.ref o0)] [(.ref o0)]))
  obtain ⟨T3, X3, e3, st3⟩ := getF X2 hx hZ hown (host := "") (Or.inl (own_h hw 64 rfl)) Via.refl e2 F_type (g := (mkF m 11 #[.val (.ref o0)] [(.ref o0)])) rfl rfl (hb hby dTE_11)
  refine Goes.go st3 ?_
  show Goes p e below _ (T3.setTop (mkF m 14 #[.val (.ref o0)] [.null]))
  refine Goes.go (fun t => XS.ifnonnullNo X3.here hx rfl (hb hby dTE_14) rfl) ?_
  show Goes p e below _ (T3.setTop (mkF m 17 #[.val (.ref o0)] []))
  refine Goes.go (fun t => XS.aloadN X3.here hx rfl (hb hby dTE_17) rfl rfl ) ?_
  show Goes p e below _ (T3.setTop (mkF m 18 #[.val (.ref o0)] [(.ref o0)]))
  obtain ⟨T4, X4, e4, st4⟩ := getF X3 hx hZ hown (host := "") (Or.inl (own_h hw 66 rfl)) Via.refl e3 F_elementTest (g := (mkF m 18 #[.val (.ref o0)] [(.ref o0)])) rfl rfl (hb hby dTE_18)
  refine Goes.go st4 ?_
  show Goes p e below _ (T4.setTop (mkF m 21 #[.val (.ref o0)] [.null]))
  refine Goes.go (fun t => XS.ifnonnullNo X4.here hx rfl (hb hby dTE_21) rfl) ?_
  show Goes p e below _ (T4.setTop (mkF m 24 #[.val (.ref o0)] []))
  refine Goes.go (fun t => XS.iconst X4.here hx rfl (hb hby dTE_24)) ?_
  refine Goes.go (fun t => XS.goto X4.here hx rfl (pc0 := 25) (pc' := 29) rfl (hb hby dTE_25) (by decide) (by decide)) ?_
  show Goes p e below _ (T4.setTop (mkF m 29 #[.val (.ref o0)] [(.int (1 : Int32))]))
  exact Goes.out X4 (fun h => by rw [Bd.returns] at h; cases h) Bd.notSynchronized (fun fs hr => retN X4 hx (t := .boolean) Bd.returns (by simp) (hb hby dTE_29) hr) ⟨rfl, N0, e4⟩ (by decide) (by decide)
theorem dTN_0 : decode prog_106_method_5_code 0 = .ok (.aload_n 0, 1) := by decide +kernel
theorem dTN_1 : decode prog_106_method_5_code 1 = .ok (.getfield 12, 3) := by decide +kernel
theorem dTN_4 : decode prog_106_method_5_code 4 = .ok (.getstatic 50, 3) := by decide +kernel
theorem dTN_7 : decode prog_106_method_5_code 7 = .ok (.if_acmp .ne 21, 3) := by decide +kernel
theorem dTN_28 : decode prog_106_method_5_code 28 = .ok (.iconst 0, 1) := by decide +kernel
theorem dTN_29 : decode prog_106_method_5_code 29 = .ok (.ireturn, 1) := by decide +kernel
theorem pn_TN : plainName oNT = true := by first | (simp [plainName, overriddenIn]; done) | decide +kernel
theorem ef_TN (m : MethodId) (o0 : Addr) : entryFrame m #[(.ref o0)] 1 = mkF m 0 #[.val (.ref o0)] [] := by first | (simp [entryFrame, mkF, argsToLocals, Value.category]; done) | rfl
def QTN (Z : State) (o0 : Addr) (wE : Addr) (h0 : Heap) (n0 : Nat) (v : Option Value) (h : Heap) (L : List Loc) : Prop := v = some (.int 0) ∧ Fr n0 L ∧ h = h0
set_option maxRecDepth 65536 in
set_option maxHeartbeats 40000000 in
theorem rmTN (l : Launch) (Z : State) (a0 : Array Value) (hw : ∀ d ∈ tables_1, d.before a0 Z = true) (ws : List Jvm.Cond) (o0 : Addr) (wE : Addr) (h0 : Heap) (n0 : Nat) (Z0 : n0 ≤ h0.size) (F_kind : Fld Z h0 o0 oNT "kind" "Lcom/example/thames/thames/model/NodeKind;" .null) (F_type : Fld Z h0 o0 oNT "type" "Lcom/example/thames/thames/model/SchemaType;" .null) (F_elementTest : Fld Z h0 o0 oNT "elementTest" "Lcom/example/thames/thames/engine/NodeTest;" .null) (S_E : Sta Z h0 oNK "ELEMENT" "Lcom/example/thames/thames/model/NodeKind;" (.ref wE)) :
    MetFree l (⟨oNT, "testsElementNameAlone", "()Z"⟩ : MethodName) (head1 (Jvm.Cond.code (⟨oNT, "testsElementNameAlone", "()Z"⟩ : MethodName) prog_106_method_5_code 1 (some .boolean) :: ws) (oR 0 0 0 0)) (fun a U => a = #[(.ref o0)] ∧ Z.Warmed39 U.vm ∧ U.heap = h0) (fun _ _ _ _ _ => True) (fun _ U o U' => ∃ v L, o = .returned v ∧ QTN Z o0 wE h0 n0 v U'.heap L ∧ FrameEnd U o U' L (oR 0 0 0 0).cells (oR 0 0 0 0).slots) := by
  refine MetFree.of_bodySF (plainFor_of_name pn_TN) hisR ?_
  intro p e s m args below meth c s₁ Bd hml0 hP hK
  obtain ⟨rfl, hZ, hh⟩ := hP
  have hx := Bd.exec
  have hby := Bd.bytes
  have hml : c.maxLocals = 1 := hml0
  have hown : s.vm.findClass oNT = some m.cls := findClass_of_methodNamed Bd.named
  have hnm := (name_of_methodNamed Bd.named Bd.method).1
  have X0 : Stand p l e (oR 0 0 0 0) s m #[(.ref o0)] below meth c s₁ [] 0 0 := Stand.of_body Bd
  have e0 : s₁.heap = h0 := by rw [← hh, Bd.state]; rfl
  have N0 := Fr.nil n0
  show Goes p e below (fun o U' => ∃ v L, o = .returned v ∧ QTN Z o0 wE h0 n0 v U'.heap L ∧ FrameEnd s o U' L (oR 0 0 0 0).cells (oR 0 0 0 0).slots) _
  refine Goes.go (fun t k => castTop (ef_TN m o0) k) ?_
  show Goes p e below _ (s₁.setTop (mkF m 0 #[.val (.ref o0)] []))
  refine Goes.go (fun t => XS.aloadN X0.here hx rfl (hb hby dTN_0) rfl rfl ) ?_
  show Goes p e below _ (s₁.setTop (mkF m 1 #[.val (.ref o0)] [(.ref o0)]))
  obtain ⟨T1, X1, e1, st1⟩ := getF X0 hx hZ hown (host := "") (Or.inl (own_h hw 58 rfl)) Via.refl e0 F_kind (g := (mkF m 1 #[.val (.ref o0)] [(.ref o0)])) rfl rfl (hb hby dTN_1)
  refine Goes.go st1 ?_
  show Goes p e below _ (T1.setTop (mkF m 4 #[.val (.ref o0)] [.null]))
  obtain ⟨T2, X2, e2, st2⟩ := getS2 X1 hx hZ hown (host := "") (Or.inl (own_h hw 72 rfl)) Via.refl e1 S_E (g := (mkF m 4 #[.val (.ref o0)] [.null])) rfl (hb hby dTN_4)
  refine Goes.go st2 ?_
  show Goes p e below _ (T2.setTop (mkF m 7 #[.val (.ref o0)] [(.ref wE), .null]))
  refine Goes.go (fun t => Jvm.RoadKit.acmp (g := (mkF m 7 #[.val (.ref o0)] [(.ref wE), .null])) X2 hx rfl rfl rfl (pc0 := 7) (pc' := 28) (same := false) rfl (hb hby dTN_7) rfl (decide_eq_false nofun) (by decide) (by decide)) ?_
  show Goes p e below _ (T2.setTop (mkF m 28 #[.val (.ref o0)] []))
  refine Goes.go (fun t => XS.iconst X2.here hx rfl (hb hby dTN_28)) ?_
  show Goes p e below _ (T2.setTop (mkF m 29 #[.val (.ref o0)] [(.int (0 : Int32))]))
  exact Goes.out X2 (fun h => by rw [Bd.returns] at h; cases h) Bd.notSynchronized (fun fs hr => retN X2 hx (t := .boolean) Bd.returns (by simp) (hb hby dTN_29) hr) ⟨rfl, N0, e2⟩ (by decide) (by decide)
theorem dTW_0 : decode prog_106_method_5_code 0 = .ok (.aload_n 0, 1) := by decide +kernel
theorem dTW_1 : decode prog_106_method_5_code 1 = .ok (.getfield 12, 3) := by decide +kernel
theorem dTW_4 : decode prog_106_method_5_code 4 = .ok (.getstatic 50, 3) := by decide +kernel
theorem dTW_7 : decode prog_106_method_5_code 7 = .ok (.if_acmp .ne 21, 3) := by decide +kernel
theorem dTW_28 : decode prog_106_method_5_code 28 = .ok (.iconst 0, 1) := by decide +kernel
theorem dTW_29 : decode prog_106_method_5_code 29 = .ok (.ireturn, 1) := by decide +kernel
theorem pn_TW : plainName oNT = true := by first | (simp [plainName, overriddenIn]; done) | decide +kernel
theorem ef_TW (m : MethodId) (o0 : Addr) : entryFrame m #[(.ref o0)] 1 = mkF m 0 #[.val (.ref o0)] [] := by first | (simp [entryFrame, mkF, argsToLocals, Value.category]; done) | rfl
def QTW (Z : State) (o0 : Addr) (wE : Addr) (w : Addr) (h0 : Heap) (n0 : Nat) (v : Option Value) (h : Heap) (L : List Loc) : Prop := v = some (.int 0) ∧ Fr n0 L ∧ h = h0
set_option maxRecDepth 65536 in
set_option maxHeartbeats 40000000 in
theorem rmTW (l : Launch) (Z : State) (a0 : Array Value) (hw : ∀ d ∈ tables_1, d.before a0 Z = true) (ws : List Jvm.Cond) (o0 : Addr) (wE : Addr) (w : Addr) (h0 : Heap) (n0 : Nat) (Z0 : n0 ≤ h0.size) (F_kind : Fld Z h0 o0 oNT "kind" "Lcom/example/thames/thames/model/NodeKind;" (.ref w)) (F_type : Fld Z h0 o0 oNT "type" "Lcom/example/thames/thames/model/SchemaType;" .null) (F_elementTest : Fld Z h0 o0 oNT "elementTest" "Lcom/example/thames/thames/engine/NodeTest;" .null) (S_E : Sta Z h0 oNK "ELEMENT" "Lcom/example/thames/thames/model/NodeKind;" (.ref wE)) (hne : ¬ w = wE) :
    MetFree l (⟨oNT, "testsElementNameAlone", "()Z"⟩ : MethodName) (head1 (Jvm.Cond.code (⟨oNT, "testsElementNameAlone", "()Z"⟩ : MethodName) prog_106_method_5_code 1 (some .boolean) :: ws) (oR 0 0 0 0)) (fun a U => a = #[(.ref o0)] ∧ Z.Warmed39 U.vm ∧ U.heap = h0) (fun _ _ _ _ _ => True) (fun _ U o U' => ∃ v L, o = .returned v ∧ QTW Z o0 wE w h0 n0 v U'.heap L ∧ FrameEnd U o U' L (oR 0 0 0 0).cells (oR 0 0 0 0).slots) := by
  refine MetFree.of_bodySF (plainFor_of_name pn_TW) hisR ?_
  intro p e s m args below meth c s₁ Bd hml0 hP hK
  obtain ⟨rfl, hZ, hh⟩ := hP
  have hx := Bd.exec
  have hby := Bd.bytes
  have hml : c.maxLocals = 1 := hml0
  have hown : s.vm.findClass oNT = some m.cls := findClass_of_methodNamed Bd.named
  have hnm := (name_of_methodNamed Bd.named Bd.method).1
  have X0 : Stand p l e (oR 0 0 0 0) s m #[(.ref o0)] below meth c s₁ [] 0 0 := Stand.of_body Bd
  have e0 : s₁.heap = h0 := by rw [← hh, Bd.state]; rfl
  have N0 := Fr.nil n0
  show Goes p e below (fun o U' => ∃ v L, o = .returned v ∧ QTW Z o0 wE w h0 n0 v U'.heap L ∧ FrameEnd s o U' L (oR 0 0 0 0).cells (oR 0 0 0 0).slots) _
  refine Goes.go (fun t k => castTop (ef_TW m o0) k) ?_
  show Goes p e below _ (s₁.setTop (mkF m 0 #[.val (.ref o0)] []))
  refine Goes.go (fun t => XS.aloadN X0.here hx rfl (hb hby dTW_0) rfl rfl ) ?_
  show Goes p e below _ (s₁.setTop (mkF m 1 #[.val (.ref o0)] [(.ref o0)]))
  obtain ⟨T1, X1, e1, st1⟩ := getF X0 hx hZ hown (host := "") (Or.inl (own_h hw 58 rfl)) Via.refl e0 F_kind (g := (mkF m 1 #[.val (.ref o0)] [(.ref o0)])) rfl rfl (hb hby dTW_1)
  refine Goes.go st1 ?_
  show Goes p e below _ (T1.setTop (mkF m 4 #[.val (.ref o0)] [(.ref w)]))
  obtain ⟨T2, X2, e2, st2⟩ := getS2 X1 hx hZ hown (host := "") (Or.inl (own_h hw 72 rfl)) Via.refl e1 S_E (g := (mkF m 4 #[.val (.ref o0)] [(.ref w)])) rfl (hb hby dTW_4)
  refine Goes.go st2 ?_
  show Goes p e below _ (T2.setTop (mkF m 7 #[.val (.ref o0)] [(.ref wE), (.ref w)]))
  refine Goes.go (fun t => Jvm.RoadKit.acmp (g := (mkF m 7 #[.val (.ref o0)] [(.ref wE), (.ref w)])) X2 hx rfl rfl rfl (pc0 := 7) (pc' := 28) (same := false) rfl (hb hby dTW_7) rfl (decide_eq_false fun q => hne (Value.ref.inj q)) (by decide) (by decide)) ?_
  show Goes p e below _ (T2.setTop (mkF m 28 #[.val (.ref o0)] []))
  refine Goes.go (fun t => XS.iconst X2.here hx rfl (hb hby dTW_28)) ?_
  show Goes p e below _ (T2.setTop (mkF m 29 #[.val (.ref o0)] [(.int (0 : Int32))]))
  exact Goes.out X2 (fun h => by rw [Bd.returns] at h; cases h) Bd.notSynchronized (fun fs hr => retN X2 hx (t := .boolean) Bd.returns (by simp) (hb hby dTW_29) hr) ⟨rfl, N0, e2⟩ (by decide) (by decide)
theorem dLA_0 : decode prog_106_method_7_code 0 = .ok (.aload_n 0, 1) := by decide +kernel
theorem dLA_1 : decode prog_106_method_7_code 1 = .ok (.getfield 12, 3) := by decide +kernel
theorem dLA_4 : decode prog_106_method_7_code 4 = .ok (.ifnonnull 28, 3) := by decide +kernel
theorem dLA_32 : decode prog_106_method_7_code 32 = .ok (.iconst 0, 1) := by decide +kernel
theorem dLA_33 : decode prog_106_method_7_code 33 = .ok (.istore_n 1, 1) := by decide +kernel
theorem dLA_34 : decode prog_106_method_7_code 34 = .ok (.aload_n 0, 1) := by decide +kernel
theorem dLA_35 : decode prog_106_method_7_code 35 = .ok (.getfield 41, 3) := by decide +kernel
theorem dLA_38 : decode prog_106_method_7_code 38 = .ok (.ifnonnull 7, 3) := by decide +kernel
theorem dLA_45 : decode prog_106_method_7_code 45 = .ok (.iconst 1, 1) := by decide +kernel
theorem dLA_46 : decode prog_106_method_7_code 46 = .ok (.goto 4, 3) := by decide +kernel
theorem dLA_50 : decode prog_106_method_7_code 50 = .ok (.ireturn, 1) := by decide +kernel
theorem pn_LA : plainName oNT = true := by first | (simp [plainName, overriddenIn]; done) | decide +kernel
theorem ef_LA (m : MethodId) (o0 : Addr) : entryFrame m #[(.ref o0)] 2 = mkF m 0 #[.val (.ref o0), .unset] [] := by first | (simp [entryFrame, mkF, argsToLocals, Value.category]; done) | rfl
def QLA (Z : State) (o0 : Addr) (w : Addr) (q : Addr) (h0 : Heap) (n0 : Nat) (v : Option Value) (h : Heap) (L : List Loc) : Prop := v = some (.int 1) ∧ Fr n0 L ∧ h = h0
set_option maxRecDepth 65536 in
set_option maxHeartbeats 40000000 in
theorem rmLA (l : Launch) (Z : State) (a0 : Array Value) (hw : ∀ d ∈ tables_1, d.before a0 Z = true) (ws : List Jvm.Cond) (o0 : Addr) (w : Addr) (q : Addr) (h0 : Heap) (n0 : Nat) (Z0 : n0 ≤ h0.size) (F_kind : Fld Z h0 o0 oNT "kind" "Lcom/example/thames/thames/model/NodeKind;" (.ref w)) (F_elementQuery : Fld Z h0 o0 oNT "elementQuery" "Lcom/example/thames/thames/model/ElementQuery;" (.ref q)) :
    MetFree l (⟨oNT, "listedByTree", "()Z"⟩ : MethodName) (head1 (Jvm.Cond.code (⟨oNT, "listedByTree", "()Z"⟩ : MethodName) prog_106_method_7_code 2 (some .boolean) :: ws) (oR 0 0 0 0)) (fun a U => a = #[(.ref o0)] ∧ Z.Warmed39 U.vm ∧ U.heap = h0) (fun _ _ _ _ _ => True) (fun _ U o U' => ∃ v L, o = .returned v ∧ QLA Z o0 w q h0 n0 v U'.heap L ∧ FrameEnd U o U' L (oR 0 0 0 0).cells (oR 0 0 0 0).slots) := by
  refine MetFree.of_bodySF (plainFor_of_name pn_LA) hisR ?_
  intro p e s m args below meth c s₁ Bd hml0 hP hK
  obtain ⟨rfl, hZ, hh⟩ := hP
  have hx := Bd.exec
  have hby := Bd.bytes
  have hml : c.maxLocals = 2 := hml0
  have hown : s.vm.findClass oNT = some m.cls := findClass_of_methodNamed Bd.named
  have hnm := (name_of_methodNamed Bd.named Bd.method).1
  have X0 : Stand p l e (oR 0 0 0 0) s m #[(.ref o0)] below meth c s₁ [] 0 0 := Stand.of_body Bd
  have e0 : s₁.heap = h0 := by rw [← hh, Bd.state]; rfl
  have N0 := Fr.nil n0
  show Goes p e below (fun o U' => ∃ v L, o = .returned v ∧ QLA Z o0 w q h0 n0 v U'.heap L ∧ FrameEnd s o U' L (oR 0 0 0 0).cells (oR 0 0 0 0).slots) _
  refine Goes.go (fun t k => castTop (ef_LA m o0) k) ?_
  show Goes p e below _ (s₁.setTop (mkF m 0 #[.val (.ref o0), .unset] []))
  refine Goes.go (fun t => XS.aloadN X0.here hx rfl (hb hby dLA_0) rfl rfl ) ?_
  show Goes p e below _ (s₁.setTop (mkF m 1 #[.val (.ref o0), .unset] [(.ref o0)]))
  obtain ⟨T1, X1, e1, st1⟩ := getF X0 hx hZ hown (host := "") (Or.inl (own_h hw 58 rfl)) Via.refl e0 F_kind (g := (mkF m 1 #[.val (.ref o0), .unset] [(.ref o0)])) rfl rfl (hb hby dLA_1)
  refine Goes.go st1 ?_
  show Goes p e below _ (T1.setTop (mkF m 4 #[.val (.ref o0), .unset] [(.ref w)]))
  refine Goes.go (fun t => XS.ifnonnullYes X1.here hx rfl (pc0 := 4) (pc' := 32) rfl (hb hby dLA_4) rfl (by decide) (by decide)) ?_
  show Goes p e below _ (T1.setTop (mkF m 32 #[.val (.ref o0), .unset] []))
  refine Goes.go (fun t => XS.iconst X1.here hx rfl (hb hby dLA_32)) ?_
  refine Goes.go (fun t => XS.istoreN X1.here hx rfl (hb hby dLA_33) rfl (l' := #[.val (.ref o0), .val (.int (0 : Int32))]) rfl) ?_
  refine Goes.go (fun t => XS.aloadN X1.here hx rfl (hb hby dLA_34) rfl rfl ) ?_
  show Goes p e below _ (T1.setTop (mkF m 35 #[.val (.ref o0), .val (.int (0 : Int32))] [(.ref o0)]))
  obtain ⟨T2, X2, e2, st2⟩ := getF X1 hx hZ hown (host := "") (Or.inl (own_h hw 74 rfl)) Via.refl e1 F_elementQuery (g := (mkF m 35 #[.val (.ref o0), .val (.int (0 : Int32))] [(.ref o0)])) rfl rfl (hb hby dLA_35)
  refine Goes.go st2 ?_
  show Goes p e below _ (T2.setTop (mkF m 38 #[.val (.ref o0), .val (.int (0 : Int32))] [(.ref q)]))
  refine Goes.go (fun t => XS.ifnonnullYes X2.here hx rfl (pc0 := 38) (pc' := 45) rfl (hb hby dLA_38) rfl (by decide) (by decide)) ?_
  show Goes p e below _ (T2.setTop (mkF m 45 #[.val (.ref o0), .val (.int (0 : Int32))] []))
  refine Goes.go (fun t => XS.iconst X2.here hx rfl (hb hby dLA_45)) ?_
  refine Goes.go (fun t => XS.goto X2.here hx rfl (pc0 := 46) (pc' := 50) rfl (hb hby dLA_46) (by decide) (by decide)) ?_
  show Goes p e below _ (T2.setTop (mkF m 50 #[.val (.ref o0), .val (.int (0 : Int32))] [(.int (1 : Int32))]))
  exact Goes.out X2 (fun h => by rw [Bd.returns] at h; cases h) Bd.notSynchronized (fun fs hr => retN X2 hx (t := .boolean) Bd.returns (by simp) (hb hby dLA_50) hr) ⟨rfl, N0, e2⟩ (by decide) (by decide)
theorem dLB_0 : decode prog_106_method_7_code 0 = .ok (.aload_n 0, 1) := by decide +kernel
theorem dLB_1 : decode prog_106_method_7_code 1 = .ok (.getfield 12, 3) := by decide +kernel
theorem dLB_4 : decode prog_106_method_7_code 4 = .ok (.ifnonnull 28, 3) := by decide +kernel
theorem dLB_32 : decode prog_106_method_7_code 32 = .ok (.iconst 0, 1) := by decide +kernel
theorem dLB_33 : decode prog_106_method_7_code 33 = .ok (.istore_n 1, 1) := by decide +kernel
theorem dLB_34 : decode prog_106_method_7_code 34 = .ok (.aload_n 0, 1) := by decide +kernel
theorem dLB_35 : decode prog_106_method_7_code 35 = .ok (.getfield 41, 3) := by decide +kernel
theorem dLB_38 : decode prog_106_method_7_code 38 = .ok (.ifnonnull 7, 3) := by decide +kernel
theorem dLB_41 : decode prog_106_method_7_code 41 = .ok (.iload_n 1, 1) := by decide +kernel
theorem dLB_42 : decode prog_106_method_7_code 42 = .ok (.ifCond .eq 7, 3) := by decide +kernel
theorem dLB_49 : decode prog_106_method_7_code 49 = .ok (.iconst 0, 1) := by decide +kernel
theorem dLB_50 : decode prog_106_method_7_code 50 = .ok (.ireturn, 1) := by decide +kernel
theorem pn_LB : plainName oNT = true := by first | (simp [plainName, overriddenIn]; done) | decide +kernel
theorem ef_LB (m : MethodId) (o0 : Addr) : entryFrame m #[(.ref o0)] 2 = mkF m 0 #[.val (.ref o0), .unset] [] := by first | (simp [entryFrame, mkF, argsToLocals, Value.category]; done) | rfl
def QLB (Z : State) (o0 : Addr) (w : Addr) (h0 : Heap) (n0 : Nat) (v : Option Value) (h : Heap) (L : List Loc) : Prop := v = some (.int 0) ∧ Fr n0 L ∧ h = h0
set_option maxRecDepth 65536 in
set_option maxHeartbeats 40000000 in
theorem rmLB (l : Launch) (Z : State) (a0 : Array Value) (hw : ∀ d ∈ tables_1, d.before a0 Z = true) (ws : List Jvm.Cond) (o0 : Addr) (w : Addr) (h0 : Heap) (n0 : Nat) (Z0 : n0 ≤ h0.size) (F_kind : Fld Z h0 o0 oNT "kind" "Lcom/example/thames/thames/model/NodeKind;" (.ref w)) (F_elementQuery : Fld Z h0 o0 oNT "elementQuery" "Lcom/example/thames/thames/model/ElementQuery;" .null) :
    MetFree l (⟨oNT, "listedByTree", "()Z"⟩ : MethodName) (head1 (Jvm.Cond.code (⟨oNT, "listedByTree", "()Z"⟩ : MethodName) prog_106_method_7_code 2 (some .boolean) :: ws) (oR 0 0 0 0)) (fun a U => a = #[(.ref o0)] ∧ Z.Warmed39 U.vm ∧ U.heap = h0) (fun _ _ _ _ _ => True) (fun _ U o U' => ∃ v L, o = .returned v ∧ QLB Z o0 w h0 n0 v U'.heap L ∧ FrameEnd U o U' L (oR 0 0 0 0).cells (oR 0 0 0 0).slots) := by
  refine MetFree.of_bodySF (plainFor_of_name pn_LB) hisR ?_
  intro p e s m args below meth c s₁ Bd hml0 hP hK
  obtain ⟨rfl, hZ, hh⟩ := hP
  have hx := Bd.exec
  have hby := Bd.bytes
  have hml : c.maxLocals = 2 := hml0
  have hown : s.vm.findClass oNT = some m.cls := findClass_of_methodNamed Bd.named
  have hnm := (name_of_methodNamed Bd.named Bd.method).1
  have X0 : Stand p l e (oR 0 0 0 0) s m #[(.ref o0)] below meth c s₁ [] 0 0 := Stand.of_body Bd
  have e0 : s₁.heap = h0 := by rw [← hh, Bd.state]; rfl
  have N0 := Fr.nil n0
  show Goes p e below (fun o U' => ∃ v L, o = .returned v ∧ QLB Z o0 w h0 n0 v U'.heap L ∧ FrameEnd s o U' L (oR 0 0 0 0).cells (oR 0 0 0 0).slots) _
  refine Goes.go (fun t k => castTop (ef_LB m o0) k) ?_
  show Goes p e below _ (s₁.setTop (mkF m 0 #[.val (.ref o0), .unset] []))
  refine Goes.go (fun t => XS.aloadN X0.here hx rfl (hb hby dLB_0) rfl rfl ) ?_
  show Goes p e below _ (s₁.setTop (mkF m 1 #[.val (.ref o0), .unset] [(.ref o0)]))
  obtain ⟨T1, X1, e1, st1⟩ := getF X0 hx hZ hown (host := "") (Or.inl (own_h hw 58 rfl)) Via.refl e0 F_kind (g := (mkF m 1 #[.val (.ref o0), .unset] [(.ref o0)])) rfl rfl (hb hby dLB_1)
  refine Goes.go st1 ?_
  show Goes p e below _ (T1.setTop (mkF m 4 #[.val (.ref o0), .unset] [(.ref w)]))
  refine Goes.go (fun t => XS.ifnonnullYes X1.here hx rfl (pc0 := 4) (pc' := 32) rfl (hb hby dLB_4) rfl (by decide) (by decide)) ?_
  show Goes p e below _ (T1.setTop (mkF m 32 #[.val (.ref o0), .unset] []))
  refine Goes.go (fun t => XS.iconst X1.here hx rfl (hb hby dLB_32)) ?_
  refine Goes.go (fun t => XS.istoreN X1.here hx rfl (hb hby dLB_33) rfl (l' := #[.val (.ref o0), .val (.int (0 : Int32))]) rfl) ?_
  refine Goes.go (fun t => XS.aloadN X1.here hx rfl (hb hby dLB_34) rfl rfl ) ?_
  show Goes p e below _ (T1.setTop (mkF m 35 #[.val (.ref o0), .val (.int (0 : Int32))] [(.ref o0)]))
  obtain ⟨T2, X2, e2, st2⟩ := getF X1 hx hZ hown (host := "") (Or.inl (own_h hw 74 rfl)) Via.refl e1 F_elementQuery (g := (mkF m 35 #[.val (.ref o0), .val (.int (0 : Int32))] [(.ref o0)])) rfl rfl (hb hby dLB_35)
  refine Goes.go st2 ?_
  show Goes p e below _ (T2.setTop (mkF m 38 #[.val (.ref o0), .val (.int (0 : Int32))] [.null]))
  refine Goes.go (fun t => XS.ifnonnullNo X2.here hx rfl (hb hby dLB_38) rfl) ?_
  show Goes p e below _ (T2.setTop (mkF m 41 #[.val (.ref o0), .val (.int (0 : Int32))] []))
  refine Goes.go (fun t => XS.iloadN X2.here hx rfl (hb hby dLB_41) rfl ) ?_
  show Goes p e below _ (T2.setTop (mkF m 42 #[.val (.ref o0), .val (.int (0 : Int32))] [(.int (0 : Int32))]))
  refine Goes.go (fun t => XS.ifYes X2.here hx rfl (pc0 := 42) (pc' := 49) rfl (hb hby dLB_42) rfl (Jvm.Free.XT.i0_eq_t (by decide)) (by decide) (by decide)) ?_
  show Goes p e below _ (T2.setTop (mkF m 49 #[.val (.ref o0), .val (.int (0 : Int32))] []))
  refine Goes.go (fun t => XS.iconst X2.here hx rfl (hb hby dLB_49)) ?_
  show Goes p e below _ (T2.setTop (mkF m 50 #[.val (.ref o0), .val (.int (0 : Int32))] [(.int (0 : Int32))]))
  exact Goes.out X2 (fun h => by rw [Bd.returns] at h; cases h) Bd.notSynchronized (fun fs hr => retN X2 hx (t := .boolean) Bd.returns (by simp) (hb hby dLB_50) hr) ⟨rfl, N0, e2⟩ (by decide) (by decide)
theorem dLC_0 : decode prog_106_method_7_code 0 = .ok (.aload_n 0, 1) := by decide +kernel
theorem dLC_1 : decode prog_106_method_7_code 1 = .ok (.getfield 12, 3) := by decide +kernel
theorem dLC_4 : decode prog_106_method_7_code 4 = .ok (.ifnonnull 28, 3) := by decide +kernel
theorem dLC_7 : decode prog_106_method_7_code 7 = .ok (.aload_n 0, 1) := by decide +kernel
theorem dLC_8 : decode prog_106_method_7_code 8 = .ok (.getfield 16, 3) := by decide +kernel
theorem dLC_11 : decode prog_106_method_7_code 11 = .ok (.ifnonnull 21, 3) := by decide +kernel
theorem dLC_14 : decode prog_106_method_7_code 14 = .ok (.aload_n 0, 1) := by decide +kernel
theorem dLC_15 : decode prog_106_method_7_code 15 = .ok (.getfield 20, 3) := by decide +kernel
theorem dLC_18 : decode prog_106_method_7_code 18 = .ok (.ifnonnull 14, 3) := by decide +kernel
theorem dLC_21 : decode prog_106_method_7_code 21 = .ok (.aload_n 0, 1) := by decide +kernel
theorem dLC_22 : decode prog_106_method_7_code 22 = .ok (.getfield 23, 3) := by decide +kernel
theorem dLC_25 : decode prog_106_method_7_code 25 = .ok (.ifnonnull 7, 3) := by decide +kernel
theorem dLC_28 : decode prog_106_method_7_code 28 = .ok (.iconst 1, 1) := by decide +kernel
theorem dLC_29 : decode prog_106_method_7_code 29 = .ok (.goto 4, 3) := by decide +kernel
theorem dLC_33 : decode prog_106_method_7_code 33 = .ok (.istore_n 1, 1) := by decide +kernel
theorem dLC_34 : decode prog_106_method_7_code 34 = .ok (.aload_n 0, 1) := by decide +kernel
theorem dLC_35 : decode prog_106_method_7_code 35 = .ok (.getfield 41, 3) := by decide +kernel
theorem dLC_38 : decode prog_106_method_7_code 38 = .ok (.ifnonnull 7, 3) := by decide +kernel
theorem dLC_41 : decode prog_106_method_7_code 41 = .ok (.iload_n 1, 1) := by decide +kernel
theorem dLC_42 : decode prog_106_method_7_code 42 = .ok (.ifCond .eq 7, 3) := by decide +kernel
theorem dLC_45 : decode prog_106_method_7_code 45 = .ok (.iconst 1, 1) := by decide +kernel
theorem dLC_46 : decode prog_106_method_7_code 46 = .ok (.goto 4, 3) := by decide +kernel
theorem dLC_50 : decode prog_106_method_7_code 50 = .ok (.ireturn, 1) := by decide +kernel
theorem pn_LC : plainName oNT = true := by first | (simp [plainName, overriddenIn]; done) | decide +kernel
theorem ef_LC (m : MethodId) (o0 : Addr) : entryFrame m #[(.ref o0)] 2 = mkF m 0 #[.val (.ref o0), .unset] [] := by first | (simp [entryFrame, mkF, argsToLocals, Value.category]; done) | rfl
def QLC (Z : State) (o0 : Addr) (h0 : Heap) (n0 : Nat) (v : Option Value) (h : Heap) (L : List Loc) : Prop := v = some (.int 1) ∧ Fr n0 L ∧ h = h0
set_option maxRecDepth 65536 in
set_option maxHeartbeats 40000000 in
theorem rmLC (l : Launch) (Z : State) (a0 : Array Value) (hw : ∀ d ∈ tables_1, d.before a0 Z = true) (ws : List Jvm.Cond) (o0 : Addr) (h0 : Heap) (n0 : Nat) (Z0 : n0 ≤ h0.size) (F_kind : Fld Z h0 o0 oNT "kind" "Lcom/example/thames/thames/model/NodeKind;" .null) (F_namespaceUri : Fld Z h0 o0 oNT "namespaceUri" "Ljava/lang/String;" .null) (F_localName : Fld Z h0 o0 oNT "localName" "Ljava/lang/String;" .null) (F_type : Fld Z h0 o0 oNT "type" "Lcom/example/thames/thames/model/SchemaType;" .null) (F_elementQuery : Fld Z h0 o0 oNT "elementQuery" "Lcom/example/thames/thames/model/ElementQuery;" .null) :
    MetFree l (⟨oNT, "listedByTree", "()Z"⟩ : MethodName) (head1 (Jvm.Cond.code (⟨oNT, "listedByTree", "()Z"⟩ : MethodName) prog_106_method_7_code 2 (some .boolean) :: ws) (oR 0 0 0 0)) (fun a U => a = #[(.ref o0)] ∧ Z.Warmed39 U.vm ∧ U.heap = h0) (fun _ _ _ _ _ => True) (fun _ U o U' => ∃ v L, o = .returned v ∧ QLC Z o0 h0 n0 v U'.heap L ∧ FrameEnd U o U' L (oR 0 0 0 0).cells (oR 0 0 0 0).slots) := by
  refine MetFree.of_bodySF (plainFor_of_name pn_LC) hisR ?_
  intro p e s m args below meth c s₁ Bd hml0 hP hK
  obtain ⟨rfl, hZ, hh⟩ := hP
  have hx := Bd.exec
  have hby := Bd.bytes
  have hml : c.maxLocals = 2 := hml0
  have hown : s.vm.findClass oNT = some m.cls := findClass_of_methodNamed Bd.named
  have hnm := (name_of_methodNamed Bd.named Bd.method).1
  have X0 : Stand p l e (oR 0 0 0 0) s m #[(.ref o0)] below meth c s₁ [] 0 0 := Stand.of_body Bd
  have e0 : s₁.heap = h0 := by rw [← hh, Bd.state]; rfl
  have N0 := Fr.nil n0
  show Goes p e below (fun o U' => ∃ v L, o = .returned v ∧ QLC Z o0 h0 n0 v U'.heap L ∧ FrameEnd s o U' L (oR 0 0 0 0).cells (oR 0 0 0 0).slots) _
  refine Goes.go (fun t k => castTop (ef_LC m o0) k) ?_
  show Goes p e below _ (s₁.setTop (mkF m 0 #[.val (.ref o0), .unset] []))
  refine Goes.go (fun t => XS.aloadN X0.here hx rfl (hb hby dLC_0) rfl rfl ) ?_
  show Goes p e below _ (s₁.setTop (mkF m 1 #[.val (.ref o0), .unset] [(.ref o0)]))
  obtain ⟨T1, X1, e1, st1⟩ := getF X0 hx hZ hown (host := "") (Or.inl (own_h hw 58 rfl)) Via.refl e0 F_kind (g := (mkF m 1 #[.val (.ref o0), .unset] [(.ref o0)])) rfl rfl (hb hby dLC_1)
  refine Goes.go st1 ?_
  show Goes p e below _ (T1.setTop (mkF m 4 #[.val (.ref o0), .unset] [.null]))
  refine Goes.go (fun t => XS.ifnonnullNo X1.here hx rfl (hb hby dLC_4) rfl) ?_
  show Goes p e below _ (T1.setTop (mkF m 7 #[.val (.ref o0), .unset] []))
  refine Goes.go (fun t => XS.aloadN X1.here hx rfl (hb hby dLC_7) rfl rfl ) ?_
  show Goes p e below _ (T1.setTop (mkF m 8 #[.val (.ref o0), .unset] [(.ref o0)]))
  obtain ⟨T2, X2, e2, st2⟩ := getF X1 hx hZ hown (host := "") (Or.inl (own_h hw 60 rfl)) Via.refl e1 F_namespaceUri (g := (mkF m 8 #[.val (.ref o0), .unset] [(.ref o0)])) rfl rfl (hb hby dLC_8)
  refine Goes.go st2 ?_
  show Goes p e below _ (T2.setTop (mkF m 11 #[.val (.ref o0), .unset] [.null]))
  refine Goes.go (fun t => XS.ifnonnullNo X2.here hx rfl (hb hby dLC_11) rfl) ?_
  show Goes p e below _ (T2.setTop (mkF m 14 #[.val (.ref o0), .unset] []))
  refine Goes.go (fun t => XS.aloadN X2.here hx rfl (hb hby dLC_14) rfl rfl ) ?_
  show Goes p e below _ (T2.setTop (mkF m 15 #[.val (.ref o0), .unset] [(.ref o0)]))
  obtain ⟨T3, X3, e3, st3⟩ := getF X2 hx hZ hown (host := "") (Or.inl (own_h hw 62 rfl)) Via.refl e2 F_localName (g := (mkF m 15 #[.val (.ref o0), .unset] [(.ref o0)])) rfl rfl (hb hby dLC_15)
  refine Goes.go st3 ?_
  show Goes p e below _ (T3.setTop (mkF m 18 #[.val (.ref o0), .unset] [.null]))
  refine Goes.go (fun t => XS.ifnonnullNo X3.here hx rfl (hb hby dLC_18) rfl) ?_
  show Goes p e below _ (T3.setTop (mkF m 21 #[.val (.ref o0), .unset] []))
  refine Goes.go (fun t => XS.aloadN X3.here hx rfl (hb hby dLC_21) rfl rfl ) ?_
  show Goes p e below _ (T3.setTop (mkF m 22 #[.val (.ref o0), .unset] [(.ref o0)]))
  obtain ⟨T4, X4, e4, st4⟩ := getF X3 hx hZ hown (host := "") (Or.inl (own_h hw 64 rfl)) Via.refl e3 F_type (g := (mkF m 22 #[.val (.ref o0), .unset] [(.ref o0)])) rfl rfl (hb hby dLC_22)
  refine Goes.go st4 ?_
  show Goes p e below _ (T4.setTop (mkF m 25 #[.val (.ref o0), .unset] [.null]))
  refine Goes.go (fun t => XS.ifnonnullNo X4.here hx rfl (hb hby dLC_25) rfl) ?_
  show Goes p e below _ (T4.setTop (mkF m 28 #[.val (.ref o0), .unset] []))
  refine Goes.go (fun t => XS.iconst X4.here hx rfl (hb hby dLC_28)) ?_
  refine Goes.go (fun t => XS.goto X4.here hx rfl (pc0 := 29) (pc' := 33) rfl (hb hby dLC_29) (by decide) (by decide)) ?_
  refine Goes.go (fun t => XS.istoreN X4.here hx rfl (hb hby dLC_33) rfl (l' := #[.val (.ref o0), .val (.int (1 : Int32))]) rfl) ?_
  refine Goes.go (fun t => XS.aloadN X4.here hx rfl (hb hby dLC_34) rfl rfl ) ?_
  show Goes p e below _ (T4.setTop (mkF m 35 #[.val (.ref o0), .val (.int (1 : Int32))] [(.ref o0)]))
  obtain ⟨T5, X5, e5, st5⟩ := getF X4 hx hZ hown (host := "") (Or.inl (own_h hw 74 rfl)) Via.refl e4 F_elementQuery (g := (mkF m 35 #[.val (.ref o0), .val (.int (1 : Int32))] [(.ref o0)])) rfl rfl (hb hby dLC_35)
  refine Goes.go st5 ?_
  show Goes p e below _ (T5.setTop (mkF m 38 #[.val (.ref o0), .val (.int (1 : Int32))] [.null]))
  refine Goes.go (fun t => XS.ifnonnullNo X5.here hx rfl (hb hby dLC_38) rfl) ?_
  show Goes p e below _ (T5.setTop (mkF m 41 #[.val (.ref o0), .val (.int (1 : Int32))] []))
  refine Goes.go (fun t => XS.iloadN X5.here hx rfl (hb hby dLC_41) rfl ) ?_
  show Goes p e below _ (T5.setTop (mkF m 42 #[.val (.ref o0), .val (.int (1 : Int32))] [(.int (1 : Int32))]))
  refine Goes.go (fun t => XS.ifNo X5.here hx rfl (hb hby dLC_42) rfl (Jvm.Free.XT.i0_eq_f (by decide))) ?_
  show Goes p e below _ (T5.setTop (mkF m 45 #[.val (.ref o0), .val (.int (1 : Int32))] []))
  refine Goes.go (fun t => XS.iconst X5.here hx rfl (hb hby dLC_45)) ?_
  refine Goes.go (fun t => XS.goto X5.here hx rfl (pc0 := 46) (pc' := 50) rfl (hb hby dLC_46) (by decide) (by decide)) ?_
  show Goes p e below _ (T5.setTop (mkF m 50 #[.val (.ref o0), .val (.int (1 : Int32))] [(.int (1 : Int32))]))
  exact Goes.out X5 (fun h => by rw [Bd.returns] at h; cases h) Bd.notSynchronized (fun fs hr => retN X5 hx (t := .boolean) Bd.returns (by simp) (hb hby dLC_50) hr) ⟨rfl, N0, e5⟩ (by decide) (by decide)
theorem dLD_0 : decode prog_106_method_7_code 0 = .ok (.aload_n 0, 1) := by decide +kernel
theorem dLD_1 : decode prog_106_method_7_code 1 = .ok (.getfield 12, 3) := by decide +kernel
theorem dLD_4 : decode prog_106_method_7_code 4 = .ok (.ifnonnull 28, 3) := by decide +kernel
theorem dLD_7 : decode prog_106_method_7_code 7 = .ok (.aload_n 0, 1) := by decide +kernel
theorem dLD_8 : decode prog_106_method_7_code 8 = .ok (.getfield 16, 3) := by decide +kernel
theorem dLD_11 : decode prog_106_method_7_code 11 = .ok (.ifnonnull 21, 3) := by decide +kernel
theorem dLD_14 : decode prog_106_method_7_code 14 = .ok (.aload_n 0, 1) := by decide +kernel
theorem dLD_15 : decode prog_106_method_7_code 15 = .ok (.getfield 20, 3) := by decide +kernel
theorem dLD_18 : decode prog_106_method_7_code 18 = .ok (.ifnonnull 14, 3) := by decide +kernel
theorem dLD_32 : decode prog_106_method_7_code 32 = .ok (.iconst 0, 1) := by decide +kernel
theorem dLD_33 : decode prog_106_method_7_code 33 = .ok (.istore_n 1, 1) := by decide +kernel
theorem dLD_34 : decode prog_106_method_7_code 34 = .ok (.aload_n 0, 1) := by decide +kernel
theorem dLD_35 : decode prog_106_method_7_code 35 = .ok (.getfield 41, 3) := by decide +kernel
theorem dLD_38 : decode prog_106_method_7_code 38 = .ok (.ifnonnull 7, 3) := by decide +kernel
theorem dLD_41 : decode prog_106_method_7_code 41 = .ok (.iload_n 1, 1) := by decide +kernel
theorem dLD_42 : decode prog_106_method_7_code 42 = .ok (.ifCond .eq 7, 3) := by decide +kernel
theorem dLD_49 : decode prog_106_method_7_code 49 = .ok (.iconst 0, 1) := by decide +kernel
theorem dLD_50 : decode prog_106_method_7_code 50 = .ok (.ireturn, 1) := by decide +kernel
theorem pn_LD : plainName oNT = true := by first | (simp [plainName, overriddenIn]; done) | decide +kernel
theorem ef_LD (m : MethodId) (o0 : Addr) : entryFrame m #[(.ref o0)] 2 = mkF m 0 #[.val (.ref o0), .unset] [] := by first | (simp [entryFrame, mkF, argsToLocals, Value.category]; done) | rfl
def QLD (Z : State) (o0 : Addr) (x2 : Addr) (h0 : Heap) (n0 : Nat) (v : Option Value) (h : Heap) (L : List Loc) : Prop := v = some (.int 0) ∧ Fr n0 L ∧ h = h0
set_option maxRecDepth 65536 in
set_option maxHeartbeats 40000000 in
theorem rmLD (l : Launch) (Z : State) (a0 : Array Value) (hw : ∀ d ∈ tables_1, d.before a0 Z = true) (ws : List Jvm.Cond) (o0 : Addr) (x2 : Addr) (h0 : Heap) (n0 : Nat) (Z0 : n0 ≤ h0.size) (F_kind : Fld Z h0 o0 oNT "kind" "Lcom/example/thames/thames/model/NodeKind;" .null) (F_namespaceUri : Fld Z h0 o0 oNT "namespaceUri" "Ljava/lang/String;" .null) (F_localName : Fld Z h0 o0 oNT "localName" "Ljava/lang/String;" (.ref x2)) (F_elementQuery : Fld Z h0 o0 oNT "elementQuery" "Lcom/example/thames/thames/model/ElementQuery;" .null) :
    MetFree l (⟨oNT, "listedByTree", "()Z"⟩ : MethodName) (head1 (Jvm.Cond.code (⟨oNT, "listedByTree", "()Z"⟩ : MethodName) prog_106_method_7_code 2 (some .boolean) :: ws) (oR 0 0 0 0)) (fun a U => a = #[(.ref o0)] ∧ Z.Warmed39 U.vm ∧ U.heap = h0) (fun _ _ _ _ _ => True) (fun _ U o U' => ∃ v L, o = .returned v ∧ QLD Z o0 x2 h0 n0 v U'.heap L ∧ FrameEnd U o U' L (oR 0 0 0 0).cells (oR 0 0 0 0).slots) := by
  refine MetFree.of_bodySF (plainFor_of_name pn_LD) hisR ?_
  intro p e s m args below meth c s₁ Bd hml0 hP hK
  obtain ⟨rfl, hZ, hh⟩ := hP
  have hx := Bd.exec
  have hby := Bd.bytes
  have hml : c.maxLocals = 2 := hml0
  have hown : s.vm.findClass oNT = some m.cls := findClass_of_methodNamed Bd.named
  have hnm := (name_of_methodNamed Bd.named Bd.method).1
  have X0 : Stand p l e (oR 0 0 0 0) s m #[(.ref o0)] below meth c s₁ [] 0 0 := Stand.of_body Bd
  have e0 : s₁.heap = h0 := by rw [← hh, Bd.state]; rfl
  have N0 := Fr.nil n0
  show Goes p e below (fun o U' => ∃ v L, o = .returned v ∧ QLD Z o0 x2 h0 n0 v U'.heap L ∧ FrameEnd s o U' L (oR 0 0 0 0).cells (oR 0 0 0 0).slots) _
  refine Goes.go (fun t k => castTop (ef_LD m o0) k) ?_
  show Goes p e below _ (s₁.setTop (mkF m 0 #[.val (.ref o0), .unset] []))
  refine Goes.go (fun t => XS.aloadN X0.here hx rfl (hb hby dLD_0) rfl rfl ) ?_
  show Goes p e below _ (s₁.setTop (mkF m 1 #[.val (.ref o0), .unset] [(.ref o0)]))
  obtain ⟨T1, X1, e1, st1⟩ := getF X0 hx hZ hown (host := "") (Or.inl (own_h hw 58 rfl)) Via.refl e0 F_kind (g := (mkF m 1 #[.val (.ref o0), .unset] [(.ref o0)])) rfl rfl (hb hby dLD_1)
  refine Goes.go st1 ?_
  show Goes p e below _ (T1.setTop (mkF m 4 #[.val (.ref o0), .unset] [.null]))
  refine Goes.go (fun t => XS.ifnonnullNo X1.here hx rfl (hb hby dLD_4) rfl) ?_
  show Goes p e below _ (T1.setTop (mkF m 7 #[.val (.ref o0), .unset] []))
  refine Goes.go (fun t => XS.aloadN X1.here hx rfl (hb hby dLD_7) rfl rfl ) ?_
  show Goes p e below _ (T1.setTop (mkF m 8 #[.val (.ref o0), .unset] [(.ref o0)]))
  obtain ⟨T2, X2, e2, st2⟩ := getF X1 hx hZ hown (host := "") (Or.inl (own_h hw 60 rfl)) Via.refl e1 F_namespaceUri (g := (mkF m 8 #[.val (.ref o0), .unset] [(.ref o0)])) rfl rfl (hb hby dLD_8)
  refine Goes.go st2 ?_
  show Goes p e below _ (T2.setTop (mkF m 11 #[.val (.ref o0), .unset] [.null]))
  refine Goes.go (fun t => XS.ifnonnullNo X2.here hx rfl (hb hby dLD_11) rfl) ?_
  show Goes p e below _ (T2.setTop (mkF m 14 #[.val (.ref o0), .unset] []))
  refine Goes.go (fun t => XS.aloadN X2.here hx rfl (hb hby dLD_14) rfl rfl ) ?_
  show Goes p e below _ (T2.setTop (mkF m 15 #[.val (.ref o0), .unset] [(.ref o0)]))
  obtain ⟨T3, X3, e3, st3⟩ := getF X2 hx hZ hown (host := "") (Or.inl (own_h hw 62 rfl)) Via.refl e2 F_localName (g := (mkF m 15 #[.val (.ref o0), .unset] [(.ref o0)])) rfl rfl (hb hby dLD_15)
  refine Goes.go st3 ?_
  show Goes p e below _ (T3.setTop (mkF m 18 #[.val (.ref o0), .unset] [(.ref x2)]))
  refine Goes.go (fun t => XS.ifnonnullYes X3.here hx rfl (pc0 := 18) (pc' := 32) rfl (hb hby dLD_18) rfl (by decide) (by decide)) ?_
  show Goes p e below _ (T3.setTop (mkF m 32 #[.val (.ref o0), .unset] []))
  refine Goes.go (fun t => XS.iconst X3.here hx rfl (hb hby dLD_32)) ?_
  refine Goes.go (fun t => XS.istoreN X3.here hx rfl (hb hby dLD_33) rfl (l' := #[.val (.ref o0), .val (.int (0 : Int32))]) rfl) ?_
  refine Goes.go (fun t => XS.aloadN X3.here hx rfl (hb hby dLD_34) rfl rfl ) ?_
  show Goes p e below _ (T3.setTop (mkF m 35 #[.val (.ref o0), .val (.int (0 : Int32))] [(.ref o0)]))
  obtain ⟨T4, X4, e4, st4⟩ := getF X3 hx hZ hown (host := "") (Or.inl (own_h hw 74 rfl)) Via.refl e3 F_elementQuery (g := (mkF m 35 #[.val (.ref o0), .val (.int (0 : Int32))] [(.ref o0)])) rfl rfl (hb hby dLD_35)
  refine Goes.go st4 ?_
  show Goes p e below _ (T4.setTop (mkF m 38 #[.val (.ref o0), .val (.int (0 : Int32))] [.null]))
  refine Goes.go (fun t => XS.ifnonnullNo X4.here hx rfl (hb hby dLD_38) rfl) ?_
  show Goes p e below _ (T4.setTop (mkF m 41 #[.val (.ref o0), .val (.int (0 : Int32))] []))
  refine Goes.go (fun t => XS.iloadN X4.here hx rfl (hb hby dLD_41) rfl ) ?_
  show Goes p e below _ (T4.setTop (mkF m 42 #[.val (.ref o0), .val (.int (0 : Int32))] [(.int (0 : Int32))]))
  refine Goes.go (fun t => XS.ifYes X4.here hx rfl (pc0 := 42) (pc' := 49) rfl (hb hby dLD_42) rfl (Jvm.Free.XT.i0_eq_t (by decide)) (by decide) (by decide)) ?_
  show Goes p e below _ (T4.setTop (mkF m 49 #[.val (.ref o0), .val (.int (0 : Int32))] []))
  refine Goes.go (fun t => XS.iconst X4.here hx rfl (hb hby dLD_49)) ?_
  show Goes p e below _ (T4.setTop (mkF m 50 #[.val (.ref o0), .val (.int (0 : Int32))] [(.int (0 : Int32))]))
  exact Goes.out X4 (fun h => by rw [Bd.returns] at h; cases h) Bd.notSynchronized (fun fs hr => retN X4 hx (t := .boolean) Bd.returns (by simp) (hb hby dLD_50) hr) ⟨rfl, N0, e4⟩ (by decide) (by decide)
theorem dLE_0 : decode prog_106_method_7_code 0 = .ok (.aload_n 0, 1) := by decide +kernel
theorem dLE_1 : decode prog_106_method_7_code 1 = .ok (.getfield 12, 3) := by decide +kernel
theorem dLE_4 : decode prog_106_method_7_code 4 = .ok (.ifnonnull 28, 3) := by decide +kernel
theorem dLE_7 : decode prog_106_method_7_code 7 = .ok (.aload_n 0, 1) := by decide +kernel
theorem dLE_8 : decode prog_106_method_7_code 8 = .ok (.getfield 16, 3) := by decide +kernel
theorem dLE_11 : decode prog_106_method_7_code 11 = .ok (.ifnonnull 21, 3) := by decide +kernel
theorem dLE_32 : decode prog_106_method_7_code 32 = .ok (.iconst 0, 1) := by decide +kernel
theorem dLE_33 : decode prog_106_method_7_code 33 = .ok (.istore_n 1, 1) := by decide +kernel
theorem dLE_34 : decode prog_106_method_7_code 34 = .ok (.aload_n 0, 1) := by decide +kernel
theorem dLE_35 : decode prog_106_method_7_code 35 = .ok (.getfield 41, 3) := by decide +kernel
theorem dLE_38 : decode prog_106_method_7_code 38 = .ok (.ifnonnull 7, 3) := by decide +kernel
theorem dLE_41 : decode prog_106_method_7_code 41 = .ok (.iload_n 1, 1) := by decide +kernel
theorem dLE_42 : decode prog_106_method_7_code 42 = .ok (.ifCond .eq 7, 3) := by decide +kernel
theorem dLE_49 : decode prog_106_method_7_code 49 = .ok (.iconst 0, 1) := by decide +kernel
theorem dLE_50 : decode prog_106_method_7_code 50 = .ok (.ireturn, 1) := by decide +kernel
theorem pn_LE : plainName oNT = true := by first | (simp [plainName, overriddenIn]; done) | decide +kernel
theorem ef_LE (m : MethodId) (o0 : Addr) : entryFrame m #[(.ref o0)] 2 = mkF m 0 #[.val (.ref o0), .unset] [] := by first | (simp [entryFrame, mkF, argsToLocals, Value.category]; done) | rfl
def QLE (Z : State) (o0 : Addr) (x1 : Addr) (h0 : Heap) (n0 : Nat) (v : Option Value) (h : Heap) (L : List Loc) : Prop := v = some (.int 0) ∧ Fr n0 L ∧ h = h0
set_option maxRecDepth 65536 in
set_option maxHeartbeats 40000000 in
theorem rmLE (l : Launch) (Z : State) (a0 : Array Value) (hw : ∀ d ∈ tables_1, d.before a0 Z = true) (ws : List Jvm.Cond) (o0 : Addr) (x1 : Addr) (h0 : Heap) (n0 : Nat) (Z0 : n0 ≤ h0.size) (F_kind : Fld Z h0 o0 oNT "kind" "Lcom/example/thames/thames/model/NodeKind;" .null) (F_namespaceUri : Fld Z h0 o0 oNT "namespaceUri" "Ljava/lang/String;" (.ref x1)) (F_elementQuery : Fld Z h0 o0 oNT "elementQuery" "Lcom/example/thames/thames/model/ElementQuery;" .null) :
    MetFree l (⟨oNT, "listedByTree", "()Z"⟩ : MethodName) (head1 (Jvm.Cond.code (⟨oNT, "listedByTree", "()Z"⟩ : MethodName) prog_106_method_7_code 2 (some .boolean) :: ws) (oR 0 0 0 0)) (fun a U => a = #[(.ref o0)] ∧ Z.Warmed39 U.vm ∧ U.heap = h0) (fun _ _ _ _ _ => True) (fun _ U o U' => ∃ v L, o = .returned v ∧ QLE Z o0 x1 h0 n0 v U'.heap L ∧ FrameEnd U o U' L (oR 0 0 0 0).cells (oR 0 0 0 0).slots) := by
  refine MetFree.of_bodySF (plainFor_of_name pn_LE) hisR ?_
  intro p e s m args below meth c s₁ Bd hml0 hP hK
  obtain ⟨rfl, hZ, hh⟩ := hP
  have hx := Bd.exec
  have hby := Bd.bytes
  have hml : c.maxLocals = 2 := hml0
  have hown : s.vm.findClass oNT = some m.cls := findClass_of_methodNamed Bd.named
  have hnm := (name_of_methodNamed Bd.named Bd.method).1
  have X0 : Stand p l e (oR 0 0 0 0) s m #[(.ref o0)] below meth c s₁ [] 0 0 := Stand.of_body Bd
  have e0 : s₁.heap = h0 := by rw [← hh, Bd.state]; rfl
  have N0 := Fr.nil n0
  show Goes p e below (fun o U' => ∃ v L, o = .returned v ∧ QLE Z o0 x1 h0 n0 v U'.heap L ∧ FrameEnd s o U' L (oR 0 0 0 0).cells (oR 0 0 0 0).slots) _
  refine Goes.go (fun t k => castTop (ef_LE m o0) k) ?_
  show Goes p e below _ (s₁.setTop (mkF m 0 #[.val (.ref o0), .unset] []))
  refine Goes.go (fun t => XS.aloadN X0.here hx rfl (hb hby dLE_0) rfl rfl ) ?_
  show Goes p e below _ (s₁.setTop (mkF m 1 #[.val (.ref o0), .unset] [(.ref o0)]))
  obtain ⟨T1, X1, e1, st1⟩ := getF X0 hx hZ hown (host := "") (Or.inl (own_h hw 58 rfl)) Via.refl e0 F_kind (g := (mkF m 1 #[.val (.ref o0), .unset] [(.ref o0)])) rfl rfl (hb hby dLE_1)
  refine Goes.go st1 ?_
  show Goes p e below _ (T1.setTop (mkF m 4 #[.val (.ref o0), .unset] [.null]))
  refine Goes.go (fun t => XS.ifnonnullNo X1.here hx rfl (hb hby dLE_4) rfl) ?_
  show Goes p e below _ (T1.setTop (mkF m 7 #[.val (.ref o0), .unset] []))
  refine Goes.go (fun t => XS.aloadN X1.here hx rfl (hb hby dLE_7) rfl rfl ) ?_
  show Goes p e below _ (T1.setTop (mkF m 8 #[.val (.ref o0), .unset] [(.ref o0)]))
  obtain ⟨T2, X2, e2, st2⟩ := getF X1 hx hZ hown (host := "") (Or.inl (own_h hw 60 rfl)) Via.refl e1 F_namespaceUri (g := (mkF m 8 #[.val (.ref o0), .unset] [(.ref o0)])) rfl rfl (hb hby dLE_8)
  refine Goes.go st2 ?_
  show Goes p e below _ (T2.setTop (mkF m 11 #[.val (.ref o0), .unset] [(.ref x1)]))
  refine Goes.go (fun t => XS.ifnonnullYes X2.here hx rfl (pc0 := 11) (pc' := 32) rfl (hb hby dLE_11) rfl (by decide) (by decide)) ?_
  show Goes p e below _ (T2.setTop (mkF m 32 #[.val (.ref o0), .unset] []))
  refine Goes.go (fun t => XS.iconst X2.here hx rfl (hb hby dLE_32)) ?_
  refine Goes.go (fun t => XS.istoreN X2.here hx rfl (hb hby dLE_33) rfl (l' := #[.val (.ref o0), .val (.int (0 : Int32))]) rfl) ?_
  refine Goes.go (fun t => XS.aloadN X2.here hx rfl (hb hby dLE_34) rfl rfl ) ?_
  show Goes p e below _ (T2.setTop (mkF m 35 #[.val (.ref o0), .val (.int (0 : Int32))] [(.ref o0)]))
  obtain ⟨T3, X3, e3, st3⟩ := getF X2 hx hZ hown (host := "") (Or.inl (own_h hw 74 rfl)) Via.refl e2 F_elementQuery (g := (mkF m 35 #[.val (.ref o0), .val (.int (0 : Int32))] [(.ref o0)])) rfl rfl (hb hby dLE_35)
  refine Goes.go st3 ?_
  show Goes p e below _ (T3.setTop (mkF m 38 #[.val (.ref o0), .val (.int (0 : Int32))] [.null]))
  refine Goes.go (fun t => XS.ifnonnullNo X3.here hx rfl (hb hby dLE_38) rfl) ?_
  show Goes p e below _ (T3.setTop (mkF m 41 #[.val (.ref o0), .val (.int (0 : Int32))] []))
  refine Goes.go (fun t => XS.iloadN X3.here hx rfl (hb hby dLE_41) rfl ) ?_
  show Goes p e below _ (T3.setTop (mkF m 42 #[.val (.ref o0), .val (.int (0 : Int32))] [(.int (0 : Int32))]))
  refine Goes.go (fun t => XS.ifYes X3.here hx rfl (pc0 := 42) (pc' := 49) rfl (hb hby dLE_42) rfl (Jvm.Free.XT.i0_eq_t (by decide)) (by decide) (by decide)) ?_
  show Goes p e below _ (T3.setTop (mkF m 49 #[.val (.ref o0), .val (.int (0 : Int32))] []))
  refine Goes.go (fun t => XS.iconst X3.here hx rfl (hb hby dLE_49)) ?_
  show Goes p e below _ (T3.setTop (mkF m 50 #[.val (.ref o0), .val (.int (0 : Int32))] [(.int (0 : Int32))]))
  exact Goes.out X3 (fun h => by rw [Bd.returns] at h; cases h) Bd.notSynchronized (fun fs hr => retN X3 hx (t := .boolean) Bd.returns (by simp) (hb hby dLE_50) hr) ⟨rfl, N0, e3⟩ (by decide) (by decide)
theorem dEI_0 : decode prog_174_method_1_code 0 = .ok (.aload_n 0, 1) := by decide +kernel
theorem dEI_1 : decode prog_174_method_1_code 1 = .ok (.invokespecial 1, 3) := by decide +kernel
theorem dEI_4 : decode prog_174_method_1_code 4 = .ok (.aload_n 0, 1) := by decide +kernel
theorem dEI_5 : decode prog_174_method_1_code 5 = .ok (.aload_n 1, 1) := by decide +kernel
theorem dEI_6 : decode prog_174_method_1_code 6 = .ok (.putfield 7, 3) := by decide +kernel
theorem dEI_9 : decode prog_174_method_1_code 9 = .ok (.aload_n 0, 1) := by decide +kernel
theorem dEI_10 : decode prog_174_method_1_code 10 = .ok (.aload_n 2, 1) := by decide +kernel
theorem dEI_11 : decode prog_174_method_1_code 11 = .ok (.putfield 13, 3) := by decide +kernel
theorem dEI_14 : decode prog_174_method_1_code 14 = .ok (.aload_n 0, 1) := by decide +kernel
theorem dEI_15 : decode prog_174_method_1_code 15 = .ok (.aload_n 3, 1) := by decide +kernel
theorem dEI_16 : decode prog_174_method_1_code 16 = .ok (.putfield 16, 3) := by decide +kernel
theorem dEI_19 : decode prog_174_method_1_code 19 = .ok (.aload_n 0, 1) := by decide +kernel
theorem dEI_20 : decode prog_174_method_1_code 20 = .ok (.aload 4, 2) := by decide +kernel
theorem dEI_22 : decode prog_174_method_1_code 22 = .ok (.putfield 20, 3) := by decide +kernel
theorem dEI_25 : decode prog_174_method_1_code 25 = .ok (.aload_n 0, 1) := by decide +kernel
theorem dEI_26 : decode prog_174_method_1_code 26 = .ok (.iload 5, 2) := by decide +kernel
theorem dEI_28 : decode prog_174_method_1_code 28 = .ok (.putfield 23, 3) := by decide +kernel
theorem dEI_31 : decode prog_174_method_1_code 31 = .ok (.return_, 1) := by decide +kernel
theorem pn_EI : plainName oEQ = true := by first | (simp [plainName, overriddenIn]; done) | decide +kernel
theorem ef_EI (m : MethodId) (o0 : Addr) (v1 : Value) (v2 : Value) (v3 : Value) (r_v1 : v1.isRef = true) (r_v2 : v2.isRef = true) (r_v3 : v3.isRef = true) : entryFrame m #[(.ref o0), v1, v2, v3, .null, (.int (0 : Int32))] 6 = mkF m 0 #[.val (.ref o0), .val v1, .val v2, .val v3, .val .null, .val (.int (0 : Int32))] [] := by rcases ref_cases r_v1 with rfl | ⟨_, rfl⟩ <;> rcases ref_cases r_v2 with rfl | ⟨_, rfl⟩ <;> rcases ref_cases r_v3 with rfl | ⟨_, rfl⟩ <;> first | (simp [entryFrame, mkF, argsToLocals, Value.category]; done) | rfl
def QEI (Z : State) (o0 : Addr) (v1 : Value) (v2 : Value) (v3 : Value) (h0 : Heap) (n0 : Nat) (v : Option Value) (h : Heap) (L : List Loc) : Prop := v = none ∧ Fr n0 L ∧ Keep h0 h [o0]
set_option maxRecDepth 65536 in
set_option maxHeartbeats 40000000 in
theorem rmEI (l : Launch) (Z : State) (a0 : Array Value) (hw : ∀ d ∈ tables_1, d.before a0 Z = true) (ws : List Jvm.Cond) (o0 : Addr) (v1 : Value) (v2 : Value) (v3 : Value) (h0 : Heap) (n0 : Nat) (Z0 : n0 ≤ h0.size) (r_v1 : v1.isRef = true) (r_v2 : v2.isRef = true) (r_v3 : v3.isRef = true) (E_o0 : Exa Z h0 o0 oEQ) (g_o0 : n0 ≤ o0) (F_namespaceUri : Fld Z h0 o0 oEQ "namespaceUri" "Ljava/lang/String;" .null) (F_localName : Fld Z h0 o0 oEQ "localName" "Ljava/lang/String;" .null) (F_name : Fld Z h0 o0 oEQ "name" "Lcom/example/thames/thames/model/ExpandedQName;" .null) (F_attributeName : Fld Z h0 o0 oEQ "attributeName" "Lcom/example/thames/thames/model/ExpandedQName;" .null) (F_firstOnly : Fld Z h0 o0 oEQ "firstOnly" "Z" (.int (0 : Int32))) :
    MetFree l (⟨oEQ, "<init>", "(Ljava/lang/String;Ljava/lang/String;Lcom/example/thames/thames/model/ExpandedQName;Lcom/example/thames/thames/model/ExpandedQName;Z)V"⟩ : MethodName) (head1 (Jvm.Cond.code (⟨oEQ, "<init>", "(Ljava/lang/String;Ljava/lang/String;Lcom/example/thames/thames/model/ExpandedQName;Lcom/example/thames/thames/model/ExpandedQName;Z)V"⟩ : MethodName) prog_174_method_1_code 6 none :: ws) (oR 1 0 0 12)) (fun a U => a = #[(.ref o0), v1, v2, v3, .null, (.int (0 : Int32))] ∧ Z.Warmed39 U.vm ∧ U.heap = h0) (fun _ _ _ _ _ => True) (fun _ U o U' => ∃ v L, o = .returned v ∧ QEI Z o0 v1 v2 v3 h0 n0 v U'.heap L ∧ FrameEnd U o U' L (oR 1 0 0 12).cells (oR 1 0 0 12).slots) := by
  refine MetFree.of_bodySF (plainFor_of_name pn_EI) hisR ?_
  intro p e s m args below meth c s₁ Bd hml0 hP hK
  obtain ⟨rfl, hZ, hh⟩ := hP
  have hx := Bd.exec
  have hby := Bd.bytes
  have hml : c.maxLocals = 6 := hml0
  have hown : s.vm.findClass oEQ = some m.cls := findClass_of_methodNamed Bd.named
  have hnm := (name_of_methodNamed Bd.named Bd.method).1
  have X0 : Stand p l e (oR 1 0 0 12) s m #[(.ref o0), v1, v2, v3, .null, (.int (0 : Int32))] below meth c s₁ [] 0 0 := Stand.of_body Bd
  have e0 : s₁.heap = h0 := by rw [← hh, Bd.state]; rfl
  have N0 := Fr.nil n0
  show Goes p e below (fun o U' => ∃ v L, o = .returned v ∧ QEI Z o0 v1 v2 v3 h0 n0 v U'.heap L ∧ FrameEnd s o U' L (oR 1 0 0 12).cells (oR 1 0 0 12).slots) _
  refine Goes.go (fun t k => castTop (ef_EI m o0 v1 v2 v3 r_v1 r_v2 r_v3) k) ?_
  show Goes p e below _ (s₁.setTop (mkF m 0 #[.val (.ref o0), .val v1, .val v2, .val v3, .val .null, .val (.int (0 : Int32))] []))
  refine Goes.go (fun t => XS.aloadN X0.here hx rfl (hb hby dEI_0) rfl rfl ) ?_
  show Goes p e below _ (s₁.setTop (mkF m 1 #[.val (.ref o0), .val v1, .val v2, .val v3, .val .null, .val (.int (0 : Int32))] [(.ref o0)]))
  obtain ⟨T1, X1, e1, st1⟩ := initO X0 hx hZ hown (own_h hw 213 rfl) (own_h hw 23 rfl) (own_h hw 24 rfl) e0 (g := (mkF m 1 #[.val (.ref o0), .val v1, .val v2, .val v3, .val .null, .val (.int (0 : Int32))] [(.ref o0)])) rfl (by rw [hml]; rfl) rfl (hb hby dEI_1) (by decide) (W := 0) (by show 2 * 0 + _ ≤ _; exact Nat.le_of_eq rfl) (by decide)
  refine Goes.go st1 ?_
  show Goes p e below _ (T1.setTop (mkF m 4 #[.val (.ref o0), .val v1, .val v2, .val v3, .val .null, .val (.int (0 : Int32))] []))
  refine Goes.go (fun t => XS.aloadN X1.here hx rfl (hb hby dEI_4) rfl rfl ) ?_
  refine Goes.go (fun t => XS.aloadN X1.here hx rfl (hb hby dEI_5) rfl (by assumption) ) ?_
  show Goes p e below _ (T1.setTop (mkF m 6 #[.val (.ref o0), .val v1, .val v2, .val v3, .val .null, .val (.int (0 : Int32))] [v1, (.ref o0)]))
  obtain ⟨T2, h2, X2, e2, W2, st2⟩ := putF X1 hx hZ hown (host := "") (Or.inl (own_h hw 214 rfl)) Via.refl e1 F_namespaceUri E_o0 (Or.inr ⟨(own_h hw 215 rfl), rfl, hnm⟩) (own_h hw 209 rfl) (ty := (.object "java/lang/String")) (by decide) own_narrow (own_fits (by assumption)) (g := (mkF m 6 #[.val (.ref o0), .val v1, .val v2, .val v3, .val .null, .val (.int (0 : Int32))] [v1, (.ref o0)])) rfl rfl (hb hby dEI_6)
  have F_namespaceUri_o0_2 : Fld Z h2 o0 oEQ "namespaceUri" "Ljava/lang/String;" v1 := F_namespaceUri.same W2
  have F_localName_o0_2 : Fld Z h2 o0 oEQ "localName" "Ljava/lang/String;" .null := F_localName.other W2 (Or.inr (slot_ne (Or.inr (own_h hw 217 rfl)) (Or.inr (own_h hw 215 rfl)) (by decide) (t := (.object "java/lang/String")) (t' := (.object "java/lang/String")) (by decide) (by decide)))
  have F_name_o0_2 : Fld Z h2 o0 oEQ "name" "Lcom/example/thames/thames/model/ExpandedQName;" .null := F_name.other W2 (Or.inr (slot_ne (Or.inr (own_h hw 219 rfl)) (Or.inr (own_h hw 215 rfl)) (by decide) (t := (.object oQN)) (t' := (.object "java/lang/String")) (by decide) (by decide)))
  have F_attributeName_o0_2 : Fld Z h2 o0 oEQ "attributeName" "Lcom/example/thames/thames/model/ExpandedQName;" .null := F_attributeName.other W2 (Or.inr (slot_ne (Or.inr (own_h hw 221 rfl)) (Or.inr (own_h hw 215 rfl)) (by decide) (t := (.object oQN)) (t' := (.object "java/lang/String")) (by decide) (by decide)))
  have F_firstOnly_o0_2 : Fld Z h2 o0 oEQ "firstOnly" "Z" (.int (0 : Int32)) := F_firstOnly.other W2 (Or.inr (slot_ne (Or.inr (own_h hw 223 rfl)) (Or.inr (own_h hw 215 rfl)) (by decide) (t := .boolean) (t' := (.object "java/lang/String")) (by decide) (by decide)))
  have Z2 : n0 ≤ h2.size := Nat.le_trans Z0 (Nat.le_of_eq W2.size.symm)
  have E_o0_2 : Exa Z h2 o0 oEQ := E_o0.wr W2
  have Kz2 : Keep h0 h2 [o0] := (Keep.refl h0 [o0]).wr W2 (Or.inl (List.mem_of_getElem? (i := 0) rfl))
  have N2 := Fr.snoc X2 N0 g_o0
  refine Goes.go st2 ?_
  show Goes p e below _ (T2.setTop (mkF m 9 #[.val (.ref o0), .val v1, .val v2, .val v3, .val .null, .val (.int (0 : Int32))] []))
  refine Goes.go (fun t => XS.aloadN X2.here hx rfl (hb hby dEI_9) rfl rfl ) ?_
  refine Goes.go (fun t => XS.aloadN X2.here hx rfl (hb hby dEI_10) rfl (by assumption) ) ?_
  show Goes p e below _ (T2.setTop (mkF m 11 #[.val (.ref o0), .val v1, .val v2, .val v3, .val .null, .val (.int (0 : Int32))] [v2, (.ref o0)]))
  obtain ⟨T3, h3, X3, e3, W3, st3⟩ := putF X2 hx hZ hown (host := "") (Or.inl (own_h hw 216 rfl)) Via.refl e2 F_localName_o0_2 E_o0_2 (Or.inr ⟨(own_h hw 217 rfl), rfl, hnm⟩) (own_h hw 209 rfl) (ty := (.object "java/lang/String")) (by decide) own_narrow (own_fits (by assumption)) (g := (mkF m 11 #[.val (.ref o0), .val v1, .val v2, .val v3, .val .null, .val (.int (0 : Int32))] [v2, (.ref o0)])) rfl rfl (hb hby dEI_11)
  have F_namespaceUri_o0_3 : Fld Z h3 o0 oEQ "namespaceUri" "Ljava/lang/String;" v1 := F_namespaceUri_o0_2.other W3 (Or.inr (slot_ne (Or.inr (own_h hw 215 rfl)) (Or.inr (own_h hw 217 rfl)) (by decide) (t := (.object "java/lang/String")) (t' := (.object "java/lang/String")) (by decide) (by decide)))
  have F_localName_o0_3 : Fld Z h3 o0 oEQ "localName" "Ljava/lang/String;" v2 := F_localName_o0_2.same W3
  have F_name_o0_3 : Fld Z h3 o0 oEQ "name" "Lcom/example/thames/thames/model/ExpandedQName;" .null := F_name_o0_2.other W3 (Or.inr (slot_ne (Or.inr (own_h hw 219 rfl)) (Or.inr (own_h hw 217 rfl)) (by decide) (t := (.object oQN)) (t' := (.object "java/lang/String")) (by decide) (by decide)))
  have F_attributeName_o0_3 : Fld Z h3 o0 oEQ "attributeName" "Lcom/example/thames/thames/model/ExpandedQName;" .null := F_attributeName_o0_2.other W3 (Or.inr (slot_ne (Or.inr (own_h hw 221 rfl)) (Or.inr (own_h hw 217 rfl)) (by decide) (t := (.object oQN)) (t' := (.object "java/lang/String")) (by decide) (by decide)))
  have F_firstOnly_o0_3 : Fld Z h3 o0 oEQ "firstOnly" "Z" (.int (0 : Int32)) := F_firstOnly_o0_2.other W3 (Or.inr (slot_ne (Or.inr (own_h hw 223 rfl)) (Or.inr (own_h hw 217 rfl)) (by decide) (t := .boolean) (t' := (.object "java/lang/String")) (by decide) (by decide)))
  have Z3 : n0 ≤ h3.size := Nat.le_trans Z2 (Nat.le_of_eq W3.size.symm)
  have E_o0_3 : Exa Z h3 o0 oEQ := E_o0_2.wr W3
  have Kz3 : Keep h0 h3 [o0] := Kz2.wr W3 (Or.inl (List.mem_of_getElem? (i := 0) rfl))
  have N3 := Fr.snoc X3 N2 g_o0
  refine Goes.go st3 ?_
  show Goes p e below _ (T3.setTop (mkF m 14 #[.val (.ref o0), .val v1, .val v2, .val v3, .val .null, .val (.int (0 : Int32))] []))
  refine Goes.go (fun t => XS.aloadN X3.here hx rfl (hb hby dEI_14) rfl rfl ) ?_
  refine Goes.go (fun t => XS.aloadN X3.here hx rfl (hb hby dEI_15) rfl (by assumption) ) ?_
  show Goes p e below _ (T3.setTop (mkF m 16 #[.val (.ref o0), .val v1, .val v2, .val v3, .val .null, .val (.int (0 : Int32))] [v3, (.ref o0)]))
  obtain ⟨T4, h4, X4, e4, W4, st4⟩ := putF X3 hx hZ hown (host := "") (Or.inl (own_h hw 218 rfl)) Via.refl e3 F_name_o0_3 E_o0_3 (Or.inr ⟨(own_h hw 219 rfl), rfl, hnm⟩) (own_h hw 209 rfl) (ty := (.object oQN)) (by decide) own_narrow (own_fits (by assumption)) (g := (mkF m 16 #[.val (.ref o0), .val v1, .val v2, .val v3, .val .null, .val (.int (0 : Int32))] [v3, (.ref o0)])) rfl rfl (hb hby dEI_16)
  have F_namespaceUri_o0_4 : Fld Z h4 o0 oEQ "namespaceUri" "Ljava/lang/String;" v1 := F_namespaceUri_o0_3.other W4 (Or.inr (slot_ne (Or.inr (own_h hw 215 rfl)) (Or.inr (own_h hw 219 rfl)) (by decide) (t := (.object "java/lang/String")) (t' := (.object oQN)) (by decide) (by decide)))
  have F_localName_o0_4 : Fld Z h4 o0 oEQ "localName" "Ljava/lang/String;" v2 := F_localName_o0_3.other W4 (Or.inr (slot_ne (Or.inr (own_h hw 217 rfl)) (Or.inr (own_h hw 219 rfl)) (by decide) (t := (.object "java/lang/String")) (t' := (.object oQN)) (by decide) (by decide)))
  have F_name_o0_4 : Fld Z h4 o0 oEQ "name" "Lcom/example/thames/thames/model/ExpandedQName;" v3 := F_name_o0_3.same W4
  have F_attributeName_o0_4 : Fld Z h4 o0 oEQ "attributeName" "Lcom/example/thames/thames/model/ExpandedQName;" .null := F_attributeName_o0_3.other W4 (Or.inr (slot_ne (Or.inr (own_h hw 221 rfl)) (Or.inr (own_h hw 219 rfl)) (by decide) (t := (.object oQN)) (t' := (.object oQN)) (by decide) (by decide)))
  have F_firstOnly_o0_4 : Fld Z h4 o0 oEQ "firstOnly" "Z" (.int (0 : Int32)) := F_firstOnly_o0_3.other W4 (Or.inr (slot_ne (Or.inr (own_h hw 223 rfl)) (Or.inr (own_h hw 219 rfl)) (by decide) (t := .boolean) (t' := (.object oQN)) (by decide) (by decide)))
  have Z4 : n0 ≤ h4.size := Nat.le_trans Z3 (Nat.le_of_eq W4.size.symm)
  have E_o0_4 : Exa Z h4 o0 oEQ := E_o0_3.wr W4
  have Kz4 : Keep h0 h4 [o0] := Kz3.wr W4 (Or.inl (List.mem_of_getElem? (i := 0) rfl))
  have N4 := Fr.snoc X4 N3 g_o0
  refine Goes.go st4 ?_
  show Goes p e below _ (T4.setTop (mkF m 19 #[.val (.ref o0), .val v1, .val v2, .val v3, .val .null, .val (.int (0 : Int32))] []))
  refine Goes.go (fun t => XS.aloadN X4.here hx rfl (hb hby dEI_19) rfl rfl ) ?_
  refine Goes.go (fun t => XS.aload X4.here hx rfl (hb hby dEI_20) rfl rfl ) ?_
  show Goes p e below _ (T4.setTop (mkF m 22 #[.val (.ref o0), .val v1, .val v2, .val v3, .val .null, .val (.int (0 : Int32))] [.null, (.ref o0)]))
  obtain ⟨T5, h5, X5, e5, W5, st5⟩ := putF X4 hx hZ hown (host := "") (Or.inl (own_h hw 220 rfl)) Via.refl e4 F_attributeName_o0_4 E_o0_4 (Or.inr ⟨(own_h hw 221 rfl), rfl, hnm⟩) (own_h hw 209 rfl) (ty := (.object oQN)) (by decide) rfl rfl (g := (mkF m 22 #[.val (.ref o0), .val v1, .val v2, .val v3, .val .null, .val (.int (0 : Int32))] [.null, (.ref o0)])) rfl rfl (hb hby dEI_22)
  have F_namespaceUri_o0_5 : Fld Z h5 o0 oEQ "namespaceUri" "Ljava/lang/String;" v1 := F_namespaceUri_o0_4.other W5 (Or.inr (slot_ne (Or.inr (own_h hw 215 rfl)) (Or.inr (own_h hw 221 rfl)) (by decide) (t := (.object "java/lang/String")) (t' := (.object oQN)) (by decide) (by decide)))
  have F_localName_o0_5 : Fld Z h5 o0 oEQ "localName" "Ljava/lang/String;" v2 := F_localName_o0_4.other W5 (Or.inr (slot_ne (Or.inr (own_h hw 217 rfl)) (Or.inr (own_h hw 221 rfl)) (by decide) (t := (.object "java/lang/String")) (t' := (.object oQN)) (by decide) (by decide)))
  have F_name_o0_5 : Fld Z h5 o0 oEQ "name" "Lcom/example/thames/thames/model/ExpandedQName;" v3 := F_name_o0_4.other W5 (Or.inr (slot_ne (Or.inr (own_h hw 219 rfl)) (Or.inr (own_h hw 221 rfl)) (by decide) (t := (.object oQN)) (t' := (.object oQN)) (by decide) (by decide)))
  have F_attributeName_o0_5 : Fld Z h5 o0 oEQ "attributeName" "Lcom/example/thames/thames/model/ExpandedQName;" .null := F_attributeName_o0_4.same W5
  have F_firstOnly_o0_5 : Fld Z h5 o0 oEQ "firstOnly" "Z" (.int (0 : Int32)) := F_firstOnly_o0_4.other W5 (Or.inr (slot_ne (Or.inr (own_h hw 223 rfl)) (Or.inr (own_h hw 221 rfl)) (by decide) (t := .boolean) (t' := (.object oQN)) (by decide) (by decide)))
  have Z5 : n0 ≤ h5.size := Nat.le_trans Z4 (Nat.le_of_eq W5.size.symm)
  have E_o0_5 : Exa Z h5 o0 oEQ := E_o0_4.wr W5
  have Kz5 : Keep h0 h5 [o0] := Kz4.wr W5 (Or.inl (List.mem_of_getElem? (i := 0) rfl))
  have N5 := Fr.snoc X5 N4 g_o0
  refine Goes.go st5 ?_
  show Goes p e below _ (T5.setTop (mkF m 25 #[.val (.ref o0), .val v1, .val v2, .val v3, .val .null, .val (.int (0 : Int32))] []))
  refine Goes.go (fun t => XS.aloadN X5.here hx rfl (hb hby dEI_25) rfl rfl ) ?_
  refine Goes.go (fun t => XS.iload X5.here hx rfl (hb hby dEI_26) rfl ) ?_
  show Goes p e below _ (T5.setTop (mkF m 28 #[.val (.ref o0), .val v1, .val v2, .val v3, .val .null, .val (.int (0 : Int32))] [(.int (0 : Int32)), (.ref o0)]))
  obtain ⟨T6, h6, X6, e6, W6, st6⟩ := putFN X5 hx hZ hown (own_h hw 222 rfl) Via.refl e5 F_firstOnly_o0_5 E_o0_5 (Or.inr ⟨(own_h hw 223 rfl), rfl, hnm⟩) (own_h hw 209 rfl) (ty := .boolean) (v' := (.int (0 : Int32))) (by decide) rfl rfl (g := (mkF m 28 #[.val (.ref o0), .val v1, .val v2, .val v3, .val .null, .val (.int (0 : Int32))] [(.int (0 : Int32)), (.ref o0)])) rfl rfl (hb hby dEI_28)
  have F_namespaceUri_o0_6 : Fld Z h6 o0 oEQ "namespaceUri" "Ljava/lang/String;" v1 := F_namespaceUri_o0_5.other W6 (Or.inr (slot_ne (Or.inr (own_h hw 215 rfl)) (Or.inr (own_h hw 223 rfl)) (by decide) (t := (.object "java/lang/String")) (t' := .boolean) (by decide) (by decide)))
  have F_localName_o0_6 : Fld Z h6 o0 oEQ "localName" "Ljava/lang/String;" v2 := F_localName_o0_5.other W6 (Or.inr (slot_ne (Or.inr (own_h hw 217 rfl)) (Or.inr (own_h hw 223 rfl)) (by decide) (t := (.object "java/lang/String")) (t' := .boolean) (by decide) (by decide)))
  have F_name_o0_6 : Fld Z h6 o0 oEQ "name" "Lcom/example/thames/thames/model/ExpandedQName;" v3 := F_name_o0_5.other W6 (Or.inr (slot_ne (Or.inr (own_h hw 219 rfl)) (Or.inr (own_h hw 223 rfl)) (by decide) (t := (.object oQN)) (t' := .boolean) (by decide) (by decide)))
  have F_attributeName_o0_6 : Fld Z h6 o0 oEQ "attributeName" "Lcom/example/thames/thames/model/ExpandedQName;" .null := F_attributeName_o0_5.other W6 (Or.inr (slot_ne (Or.inr (own_h hw 221 rfl)) (Or.inr (own_h hw 223 rfl)) (by decide) (t := (.object oQN)) (t' := .boolean) (by decide) (by decide)))
  have F_firstOnly_o0_6 : Fld Z h6 o0 oEQ "firstOnly" "Z" (.int (0 : Int32)) := F_firstOnly_o0_5.same W6
  have Z6 : n0 ≤ h6.size := Nat.le_trans Z5 (Nat.le_of_eq W6.size.symm)
  have E_o0_6 : Exa Z h6 o0 oEQ := E_o0_5.wr W6
  have Kz6 : Keep h0 h6 [o0] := Kz5.wr W6 (Or.inl (List.mem_of_getElem? (i := 0) rfl))
  have N6 := Fr.snoc X6 N5 g_o0
  refine Goes.go st6 ?_
  show Goes p e below _ (T6.setTop (mkF m 31 #[.val (.ref o0), .val v1, .val v2, .val v3, .val .null, .val (.int (0 : Int32))] []))
  exact Goes.out X6 (fun _ => rfl) Bd.notSynchronized (fun fs hr => X6.returnOut hx Bd.returns (hb hby dEI_31) hr) (by rw [e6]; exact ⟨rfl, N6, Kz6⟩) (by decide) (by decide)
theorem dS4_0 : decode jdk_42_method_149_code 0 = .ok (.aload_n 0, 1) := by decide +kernel
theorem dS4_1 : decode jdk_42_method_149_code 1 = .ok (.invokespecial 1, 3) := by decide +kernel
theorem dS4_4 : decode jdk_42_method_149_code 4 = .ok (.iload_n 3, 1) := by decide +kernel
theorem dS4_5 : decode jdk_42_method_149_code 5 = .ok (.ifCond .ne 22, 3) := by decide +kernel
theorem dS4_8 : decode jdk_42_method_149_code 8 = .ok (.aload_n 0, 1) := by decide +kernel
theorem dS4_9 : decode jdk_42_method_149_code 9 = .ok (.ldc 7, 2) := by decide +kernel
theorem dS4_11 : decode jdk_42_method_149_code 11 = .ok (.getfield 9, 3) := by decide +kernel
theorem dS4_14 : decode jdk_42_method_149_code 14 = .ok (.putfield 9, 3) := by decide +kernel
theorem dS4_17 : decode jdk_42_method_149_code 17 = .ok (.aload_n 0, 1) := by decide +kernel
theorem dS4_18 : decode jdk_42_method_149_code 18 = .ok (.ldc 7, 2) := by decide +kernel
theorem dS4_20 : decode jdk_42_method_149_code 20 = .ok (.getfield 15, 3) := by decide +kernel
theorem dS4_23 : decode jdk_42_method_149_code 23 = .ok (.putfield 15, 3) := by decide +kernel
theorem dS4_26 : decode jdk_42_method_149_code 26 = .ok (.return_, 1) := by decide +kernel
theorem pn_S4 : plainName "java/lang/String" = true := by first | (simp [plainName, overriddenIn]; done) | decide +kernel
theorem ef_S4 (m : MethodId) (o0 : Addr) (o1 : Addr) : entryFrame m #[(.ref o0), (.ref o1), (.int (0 : Int32)), (.int (0 : Int32)), .null] 6 = mkF m 0 #[.val (.ref o0), .val (.ref o1), .val (.int (0 : Int32)), .val (.int (0 : Int32)), .val .null, .unset] [] := by first | (simp [entryFrame, mkF, argsToLocals, Value.category]; done) | rfl
def QS4 (Z : State) (o0 : Addr) (o1 : Addr) (h0 : Heap) (n0 : Nat) (v : Option Value) (h : Heap) (L : List Loc) : Prop := v = none ∧ Fr n0 L ∧ Keep h0 h [o0] ∧ own_s Z h o0 []
set_option maxRecDepth 65536 in
set_option maxHeartbeats 40000000 in
theorem rmS4 (l : Launch) (Z : State) (a0 : Array Value) (hw : ∀ d ∈ tables_1, d.before a0 Z = true) (ws : List Jvm.Cond) (o0 : Addr) (o1 : Addr) (h0 : Heap) (n0 : Nat) (Z0 : n0 ≤ h0.size) (E_o0 : Exa Z h0 o0 "java/lang/String") (F_v : Fld Z h0 o0 "java/lang/String" "value" "[B" .null) (F_c : Fld Z h0 o0 "java/lang/String" "coder" "B" (.int (0 : Int32))) (g_o0 : n0 ≤ o0) :
    MetFree l (⟨"java/lang/String", "<init>", "([CIILjava/lang/Void;)V"⟩ : MethodName) (head1 (Jvm.Cond.code (⟨"java/lang/String", "<init>", "([CIILjava/lang/Void;)V"⟩ : MethodName) jdk_42_method_149_code 6 none :: ws) (oR 1 4 8 12)) (fun a U => a = #[(.ref o0), (.ref o1), (.int (0 : Int32)), (.int (0 : Int32)), .null] ∧ Z.Warmed39 U.vm ∧ U.heap = h0 ∧ CHv Z own_EL U.vm h0 ∧ Safe Z own_EL U.vm h0 o0) (fun _ _ _ _ _ => True) (fun _ U o U' => ∃ v L, o = .returned v ∧ QS4 Z o0 o1 h0 n0 v U'.heap L ∧ CHr Z own_EL U.vm U.heap U'.vm U'.heap ∧ ReturnedEndW U o U' L (oR 1 4 8 12).cells (oR 1 4 8 12).slots) := by
  refine MetFree.of_bodySF (plainFor_of_name pn_S4) hisR ?_
  intro p e s m args below meth c s₁ Bd hml0 hP hK
  obtain ⟨rfl, hZ, hh, CH, SF0⟩ := hP
  have hx := Bd.exec
  have hby := Bd.bytes
  have hml : c.maxLocals = 6 := hml0
  have hown : (s.setVm s.vm).vm.findClass "java/lang/String" = some m.cls := findClass_of_methodNamed Bd.named
  have hnm := (name_of_methodNamed Bd.named Bd.method).1
  have X0 : Stand p l e (oR 1 4 8 12) (s.setVm s.vm) m #[(.ref o0), (.ref o1), (.int (0 : Int32)), (.int (0 : Int32)), .null] below meth c s₁ [] 0 0 := Stand.of_body Bd
  have e0 : s₁.heap = h0 := by rw [← hh, Bd.state]; rfl
  have N0 := Fr.nil n0
  have hZ : Z.Warmed39 (s.setVm s.vm).vm := hZ
  have hS : s.Since s.vm h0.size := (State.WarmedH.refl s).since _
  have hk : h0.size ≤ h0.size := Nat.le_refl _
  have CR0 : CHr Z own_EL s.vm h0 s.vm h0 := CHr.refl CH
  show Goes p e below (fun o U' => ∃ v L, o = .returned v ∧ QS4 Z o0 o1 h0 n0 v U'.heap L ∧ CHr Z own_EL s.vm s.heap U'.vm U'.heap ∧ ReturnedEndW s o U' L (oR 1 4 8 12).cells (oR 1 4 8 12).slots) _
  refine Goes.go (fun t k => castTop (ef_S4 m o0 o1) k) ?_
  show Goes p e below _ (s₁.setTop (mkF m 0 #[.val (.ref o0), .val (.ref o1), .val (.int (0 : Int32)), .val (.int (0 : Int32)), .val .null, .unset] []))
  refine Goes.go (fun t => XS.aloadN X0.here hx rfl (hb hby dS4_0) rfl rfl ) ?_
  show Goes p e below _ (s₁.setTop (mkF m 1 #[.val (.ref o0), .val (.ref o1), .val (.int (0 : Int32)), .val (.int (0 : Int32)), .val .null, .unset] [(.ref o0)]))
  obtain ⟨T1, X1, e1, st1⟩ := initO X0 hx hZ hown (own_h hw 22 rfl) (own_h hw 23 rfl) (own_h hw 24 rfl) e0 (g := (mkF m 1 #[.val (.ref o0), .val (.ref o1), .val (.int (0 : Int32)), .val (.int (0 : Int32)), .val .null, .unset] [(.ref o0)])) rfl (by rw [hml]; rfl) rfl (hb hby dS4_1) (by decide) (W := 0) (by show 2 * 0 + _ ≤ _; exact Nat.le_of_eq rfl) (by decide)
  refine Goes.go st1 ?_
  show Goes p e below _ (T1.setTop (mkF m 4 #[.val (.ref o0), .val (.ref o1), .val (.int (0 : Int32)), .val (.int (0 : Int32)), .val .null, .unset] []))
  refine Goes.go (fun t => XS.iloadN X1.here hx rfl (hb hby dS4_4) rfl ) ?_
  show Goes p e below _ (T1.setTop (mkF m 5 #[.val (.ref o0), .val (.ref o1), .val (.int (0 : Int32)), .val (.int (0 : Int32)), .val .null, .unset] [(.int (0 : Int32))]))
  refine Goes.go (fun t => XS.ifNo X1.here hx rfl (hb hby dS4_5) rfl (Jvm.Free.XT.i0_ne_f (by decide))) ?_
  show Goes p e below _ (T1.setTop (mkF m 8 #[.val (.ref o0), .val (.ref o1), .val (.int (0 : Int32)), .val (.int (0 : Int32)), .val .null, .unset] []))
  refine Goes.go (fun t => XS.aloadN X1.here hx rfl (hb hby dS4_8) rfl rfl ) ?_
  show Goes p e below _ (T1.setTop (mkF m 9 #[.val (.ref o0), .val (.ref o1), .val (.int (0 : Int32)), .val (.int (0 : Int32)), .val .null, .unset] [(.ref o0)]))
  obtain ⟨a2, T2, h2, k2, b2, kc2, X2, e2, E2, hS, hk, hZ, hown, Ea2, Fc2, Fv2, Av2, -, -, CQ2, -, nq2, st2⟩ := ldcCH (s := s) (vm0 := s.vm) X1 hx hZ hown (own_h hw 89 rfl) (own_wS hw) e1 hS hk (own_ew hw) (EL := own_EL) (by simp [own_EL]) CH (vs := []) (z := 0) ⟨by simp, by simp⟩ (by decide) (by decide) (g := (mkF m 9 #[.val (.ref o0), .val (.ref o1), .val (.int (0 : Int32)), .val (.int (0 : Int32)), .val .null, .unset] [(.ref o0)])) rfl (hb hby dS4_9) (n := 0) (by decide) (by decide) (by decide) (by decide)
  have CH2 := CQ2.1
  have CR2 := CR0.trans CQ2
  have SF_o0_2 := CQ2.safe E_o0.lt SF0
  have lt_o0_2 := Nat.lt_of_lt_of_le E_o0.lt E2.1
  have Z2 : n0 ≤ h2.size := Nat.le_trans Z0 E2.1
  have E_o0_2 : Exa Z h2 o0 "java/lang/String" := E_o0.ext E2
  have F_value_o0_2 : Fld Z h2 o0 "java/lang/String" "value" "[B" .null := F_v.ext E2
  have F_coder_o0_2 : Fld Z h2 o0 "java/lang/String" "coder" "B" (.int (0 : Int32)) := F_c.ext E2
  have Kz2 : Keep h0 h2 [o0] := (Keep.refl h0 [o0]).ext E2
  refine Goes.go st2 ?_
  obtain ⟨ne_o0_a2, ne_o0_b2⟩ := nq2 _ SF_o0_2
  show Goes p e below _ (T2.setTop (mkF m 11 #[.val (.ref o0), .val (.ref o1), .val (.int (0 : Int32)), .val (.int (0 : Int32)), .val .null, .unset] [(.ref a2), (.ref o0)]))
  obtain ⟨T3, X3, e3, st3⟩ := getF X2 hx hZ hown (host := "") (Or.inl (own_h hw 39 rfl)) Via.refl e2 Fv2 (g := (mkF m 11 #[.val (.ref o0), .val (.ref o1), .val (.int (0 : Int32)), .val (.int (0 : Int32)), .val .null, .unset] [(.ref a2), (.ref o0)])) rfl rfl (hb hby dS4_11)
  refine Goes.go st3 ?_
  show Goes p e below _ (T3.setTop (mkF m 14 #[.val (.ref o0), .val (.ref o1), .val (.int (0 : Int32)), .val (.int (0 : Int32)), .val .null, .unset] [(.ref b2), (.ref o0)]))
  have sf4 : Safe Z own_EL T2.vm h2 o0 := SF_o0_2
  obtain ⟨T5, h5, X5, e5, W5, st5⟩ := putF X3 hx hZ hown (host := "") (Or.inl (own_h hw 39 rfl)) Via.refl e3 F_value_o0_2 E_o0_2 (Or.inr ⟨(own_h hw 40 rfl), rfl, hnm⟩) (own_h hw 13 rfl) (ty := (.array .byte)) (by decide) rfl rfl (g := (mkF m 14 #[.val (.ref o0), .val (.ref o1), .val (.int (0 : Int32)), .val (.int (0 : Int32)), .val .null, .unset] [(.ref b2), (.ref o0)])) rfl rfl (hb hby dS4_14)
  have F_value_o0_5 : Fld Z h5 o0 "java/lang/String" "value" "[B" (.ref b2) := F_value_o0_2.same W5
  have F_coder_o0_5 : Fld Z h5 o0 "java/lang/String" "coder" "B" (.int (0 : Int32)) := F_coder_o0_2.other W5 (Or.inr (slot_ne (Or.inr (own_h hw 38 rfl)) (Or.inr (own_h hw 40 rfl)) (by decide) (t := .byte) (t' := (.array .byte)) (by decide) (by decide)))
  have CQ5 := CHr.wr W5 sf4 CH2
  have CH5 := CQ5.1
  have CR5 := CR2.trans CQ5
  have hk := Nat.le_trans hk (Nat.le_of_eq W5.size.symm)
  have lt_o0_5 := Nat.lt_of_lt_of_le lt_o0_2 (Nat.le_of_eq W5.size.symm)
  have SF_o0_5 := Safe.wr W5 sf4 CH2 SF_o0_2
  have Z5 : n0 ≤ h5.size := Nat.le_trans Z2 (Nat.le_of_eq W5.size.symm)
  have E_o0_5 : Exa Z h5 o0 "java/lang/String" := E_o0_2.wr W5
  have E_a2_5 : Exa Z h5 a2 "java/lang/String" := Ea2.wr W5
  have F_coder_a2_5 : Fld Z h5 a2 "java/lang/String" "coder" "B" (.int (0 : Int32)) := Fc2.other W5 (Or.inl (Ne.symm ne_o0_a2))
  have F_value_a2_5 : Fld Z h5 a2 "java/lang/String" "value" "[B" (.ref b2) := Fv2.other W5 (Or.inl (Ne.symm ne_o0_a2))
  have A_b2_5 : Arv Z h5 b2 kc2 .byte (0 : Int32) [] (.int 0) := Av2.other W5 (Ne.symm ne_o0_b2)
  have Kz5 : Keep h0 h5 [o0] := Kz2.wr W5 (Or.inl (List.mem_of_getElem? (i := 0) rfl))
  have N5 := Fr.snoc X5 N0 g_o0
  refine Goes.go st5 ?_
  show Goes p e below _ (T5.setTop (mkF m 17 #[.val (.ref o0), .val (.ref o1), .val (.int (0 : Int32)), .val (.int (0 : Int32)), .val .null, .unset] []))
  refine Goes.go (fun t => XS.aloadN X5.here hx rfl (hb hby dS4_17) rfl rfl ) ?_
  show Goes p e below _ (T5.setTop (mkF m 18 #[.val (.ref o0), .val (.ref o1), .val (.int (0 : Int32)), .val (.int (0 : Int32)), .val .null, .unset] [(.ref o0)]))
  obtain ⟨a6, T6, h6, k6, b6, kc6, X6, e6, E6, hS, hk, hZ, hown, Ea6, Fc6, Fv6, Av6, -, -, CQ6, -, nq6, st6⟩ := ldcCH (s := s) (vm0 := T2.vm) X5 hx hZ hown (own_h hw 89 rfl) (own_wS hw) e5 hS hk (own_ew hw) (EL := own_EL) (by simp [own_EL]) CH5 (vs := []) (z := 0) ⟨by simp, by simp⟩ (by decide) (by decide) (g := (mkF m 18 #[.val (.ref o0), .val (.ref o1), .val (.int (0 : Int32)), .val (.int (0 : Int32)), .val .null, .unset] [(.ref o0)])) rfl (hb hby dS4_18) (n := 0) (by decide) (by decide) (by decide) (by decide)
  have CH6 := CQ6.1
  have CR6 := CR5.trans CQ6
  have SF_o0_6 := CQ6.safe lt_o0_5 SF_o0_5
  have lt_o0_6 := Nat.lt_of_lt_of_le lt_o0_5 E6.1
  have Z6 : n0 ≤ h6.size := Nat.le_trans Z5 E6.1
  have E_o0_6 : Exa Z h6 o0 "java/lang/String" := E_o0_5.ext E6
  have F_value_o0_6 : Fld Z h6 o0 "java/lang/String" "value" "[B" (.ref b2) := F_value_o0_5.ext E6
  have F_coder_o0_6 : Fld Z h6 o0 "java/lang/String" "coder" "B" (.int (0 : Int32)) := F_coder_o0_5.ext E6
  have E_a2_6 : Exa Z h6 a2 "java/lang/String" := E_a2_5.ext E6
  have F_coder_a2_6 : Fld Z h6 a2 "java/lang/String" "coder" "B" (.int (0 : Int32)) := F_coder_a2_5.ext E6
  have F_value_a2_6 : Fld Z h6 a2 "java/lang/String" "value" "[B" (.ref b2) := F_value_a2_5.ext E6
  have A_b2_6 : Arv Z h6 b2 kc2 .byte (0 : Int32) [] (.int 0) := A_b2_5.ext E6
  have Kz6 : Keep h0 h6 [o0] := Kz5.ext E6
  refine Goes.go st6 ?_
  obtain ⟨ne_o0_a6, ne_o0_b6⟩ := nq6 _ SF_o0_6
  show Goes p e below _ (T6.setTop (mkF m 20 #[.val (.ref o0), .val (.ref o1), .val (.int (0 : Int32)), .val (.int (0 : Int32)), .val .null, .unset] [(.ref a6), (.ref o0)]))
  obtain ⟨T7, X7, e7, st7⟩ := getF X6 hx hZ hown (host := "") (Or.inl (own_h hw 37 rfl)) Via.refl e6 Fc6 (g := (mkF m 20 #[.val (.ref o0), .val (.ref o1), .val (.int (0 : Int32)), .val (.int (0 : Int32)), .val .null, .unset] [(.ref a6), (.ref o0)])) rfl rfl (hb hby dS4_20)
  refine Goes.go st7 ?_
  show Goes p e below _ (T7.setTop (mkF m 23 #[.val (.ref o0), .val (.ref o1), .val (.int (0 : Int32)), .val (.int (0 : Int32)), .val .null, .unset] [(.int (0 : Int32)), (.ref o0)]))
  have sf8 : Safe Z own_EL T6.vm h6 o0 := SF_o0_6
  obtain ⟨T9, h9, X9, e9, W9, st9⟩ := putFN X7 hx hZ hown (own_h hw 37 rfl) Via.refl e7 F_coder_o0_6 E_o0_6 (Or.inr ⟨(own_h hw 38 rfl), rfl, hnm⟩) (own_h hw 13 rfl) (ty := .byte) (v' := (.int (0 : Int32))) (by decide) rfl rfl (g := (mkF m 23 #[.val (.ref o0), .val (.ref o1), .val (.int (0 : Int32)), .val (.int (0 : Int32)), .val .null, .unset] [(.int (0 : Int32)), (.ref o0)])) rfl rfl (hb hby dS4_23)
  have F_value_o0_9 : Fld Z h9 o0 "java/lang/String" "value" "[B" (.ref b2) := F_value_o0_6.other W9 (Or.inr (slot_ne (Or.inr (own_h hw 40 rfl)) (Or.inr (own_h hw 38 rfl)) (by decide) (t := (.array .byte)) (t' := .byte) (by decide) (by decide)))
  have F_coder_o0_9 : Fld Z h9 o0 "java/lang/String" "coder" "B" (.int (0 : Int32)) := F_coder_o0_6.same W9
  have CQ9 := CHr.wr W9 sf8 CH6
  have CH9 := CQ9.1
  have CR9 := CR6.trans CQ9
  have hk := Nat.le_trans hk (Nat.le_of_eq W9.size.symm)
  have lt_o0_9 := Nat.lt_of_lt_of_le lt_o0_6 (Nat.le_of_eq W9.size.symm)
  have SF_o0_9 := Safe.wr W9 sf8 CH6 SF_o0_6
  have Z9 : n0 ≤ h9.size := Nat.le_trans Z6 (Nat.le_of_eq W9.size.symm)
  have E_o0_9 : Exa Z h9 o0 "java/lang/String" := E_o0_6.wr W9
  have E_a2_9 : Exa Z h9 a2 "java/lang/String" := E_a2_6.wr W9
  have F_coder_a2_9 : Fld Z h9 a2 "java/lang/String" "coder" "B" (.int (0 : Int32)) := F_coder_a2_6.other W9 (Or.inl (Ne.symm ne_o0_a2))
  have F_value_a2_9 : Fld Z h9 a2 "java/lang/String" "value" "[B" (.ref b2) := F_value_a2_6.other W9 (Or.inl (Ne.symm ne_o0_a2))
  have A_b2_9 : Arv Z h9 b2 kc2 .byte (0 : Int32) [] (.int 0) := A_b2_6.other W9 (Ne.symm ne_o0_b2)
  have E_a6_9 : Exa Z h9 a6 "java/lang/String" := Ea6.wr W9
  have F_coder_a6_9 : Fld Z h9 a6 "java/lang/String" "coder" "B" (.int (0 : Int32)) := Fc6.other W9 (Or.inl (Ne.symm ne_o0_a6))
  have F_value_a6_9 : Fld Z h9 a6 "java/lang/String" "value" "[B" (.ref b6) := Fv6.other W9 (Or.inl (Ne.symm ne_o0_a6))
  have A_b6_9 : Arv Z h9 b6 kc6 .byte (0 : Int32) [] (.int 0) := Av6.other W9 (Ne.symm ne_o0_b6)
  have Kz9 : Keep h0 h9 [o0] := Kz6.wr W9 (Or.inl (List.mem_of_getElem? (i := 0) rfl))
  have N9 := Fr.snoc X9 N5 g_o0
  refine Goes.go st9 ?_
  show Goes p e below _ (T9.setTop (mkF m 26 #[.val (.ref o0), .val (.ref o1), .val (.int (0 : Int32)), .val (.int (0 : Int32)), .val .null, .unset] []))
  exact Goes.outW X9 hS (by rw [e9]; exact hk) (fun _ => rfl) Bd.notSynchronized (fun fs hr => X9.returnOut hx Bd.returns (hb hby dS4_26) hr) (by rw [e9]; exact ⟨rfl, N9, Kz9, E_o0_9, F_coder_o0_9, ⟨b2, kc2, F_value_o0_9, A_b2_9⟩, by simp, by decide⟩) (by rw [hh, e9]; exact CR9.trans (CHv.at X9 hZ (own_ew hw) CH9)) (by decide) (by decide)
theorem dS1_0 : decode jdk_42_method_3_code 0 = .ok (.aload_n 0, 1) := by decide +kernel
theorem dS1_1 : decode jdk_42_method_3_code 1 = .ok (.aload_n 1, 1) := by decide +kernel
theorem dS1_2 : decode jdk_42_method_3_code 2 = .ok (.iconst 0, 1) := by decide +kernel
theorem dS1_3 : decode jdk_42_method_3_code 3 = .ok (.aload_n 1, 1) := by decide +kernel
theorem dS1_4 : decode jdk_42_method_3_code 4 = .ok (.arraylength, 1) := by decide +kernel
theorem dS1_5 : decode jdk_42_method_3_code 5 = .ok (.aconst_null, 1) := by decide +kernel
theorem dS1_6 : decode jdk_42_method_3_code 6 = .ok (.invokespecial 27, 3) := by decide +kernel
theorem dS1_9 : decode jdk_42_method_3_code 9 = .ok (.return_, 1) := by decide +kernel
theorem pn_S1 : plainName "java/lang/String" = true := by first | (simp [plainName, overriddenIn]; done) | decide +kernel
theorem pdS1_0 : parseMethodDescriptor "([CIILjava/lang/Void;)V" = some ⟨[(.array .char), .int, .int, (.object "java/lang/Void")], none⟩ := by decide +kernel
theorem ef_S1 (m : MethodId) (o0 : Addr) (o1 : Addr) : entryFrame m #[(.ref o0), (.ref o1)] 2 = mkF m 0 #[.val (.ref o0), .val (.ref o1)] [] := by first | (simp [entryFrame, mkF, argsToLocals, Value.category]; done) | rfl
def QS1 (Z : State) (o0 : Addr) (o1 : Addr) (cl : Cell) (h0 : Heap) (n0 : Nat) (v : Option Value) (h : Heap) (L : List Loc) : Prop := v = none ∧ Fr n0 L ∧ Keep h0 h [o0] ∧ own_s Z h o0 []
set_option maxRecDepth 65536 in
set_option maxHeartbeats 40000000 in
theorem rmS1 (l : Launch) (Z : State) (a0 : Array Value) (hw : ∀ d ∈ tables_1, d.before a0 Z = true) (ws : List Jvm.Cond) (o0 : Addr) (o1 : Addr) (cl : Cell) (h0 : Heap) (n0 : Nat) (Z0 : n0 ≤ h0.size) (E_o0 : Exa Z h0 o0 "java/lang/String") (F_v : Fld Z h0 o0 "java/lang/String" "value" "[B" .null) (F_c : Fld Z h0 o0 "java/lang/String" "coder" "B" (.int (0 : Int32))) (g_o0 : n0 ≤ o0) (Ar : Arr Z h0 o1 cl .char) (Sz : cl.slots.size = 0) :
    MetFree l (⟨"java/lang/String", "<init>", "([C)V"⟩ : MethodName) (head1 (Jvm.Cond.code (⟨"java/lang/String", "<init>", "([C)V"⟩ : MethodName) jdk_42_method_3_code 2 none :: ws) (oR 2 4 8 29)) (fun a U => a = #[(.ref o0), (.ref o1)] ∧ Z.Warmed39 U.vm ∧ U.heap = h0 ∧ CHv Z own_EL U.vm h0 ∧ Safe Z own_EL U.vm h0 o0) (fun _ _ _ _ _ => True) (fun _ U o U' => ∃ v L, o = .returned v ∧ QS1 Z o0 o1 cl h0 n0 v U'.heap L ∧ CHr Z own_EL U.vm U.heap U'.vm U'.heap ∧ ReturnedEndW U o U' L (oR 2 4 8 29).cells (oR 2 4 8 29).slots) := by
  refine MetFree.of_bodySF (plainFor_of_name pn_S1) hisR ?_
  intro p e s m args below meth c s₁ Bd hml0 hP hK
  obtain ⟨rfl, hZ, hh, CH, SF0⟩ := hP
  have hx := Bd.exec
  have hby := Bd.bytes
  have hml : c.maxLocals = 2 := hml0
  have hown : (s.setVm s.vm).vm.findClass "java/lang/String" = some m.cls := findClass_of_methodNamed Bd.named
  have hnm := (name_of_methodNamed Bd.named Bd.method).1
  have X0 : Stand p l e (oR 2 4 8 29) (s.setVm s.vm) m #[(.ref o0), (.ref o1)] below meth c s₁ [] 0 0 := Stand.of_body Bd
  have e0 : s₁.heap = h0 := by rw [← hh, Bd.state]; rfl
  have N0 := Fr.nil n0
  have hZ : Z.Warmed39 (s.setVm s.vm).vm := hZ
  have hS : s.Since s.vm h0.size := (State.WarmedH.refl s).since _
  have hk : h0.size ≤ h0.size := Nat.le_refl _
  have CR0 : CHr Z own_EL s.vm h0 s.vm h0 := CHr.refl CH
  show Goes p e below (fun o U' => ∃ v L, o = .returned v ∧ QS1 Z o0 o1 cl h0 n0 v U'.heap L ∧ CHr Z own_EL s.vm s.heap U'.vm U'.heap ∧ ReturnedEndW s o U' L (oR 2 4 8 29).cells (oR 2 4 8 29).slots) _
  refine Goes.go (fun t k => castTop (ef_S1 m o0 o1) k) ?_
  show Goes p e below _ (s₁.setTop (mkF m 0 #[.val (.ref o0), .val (.ref o1)] []))
  refine Goes.go (fun t => XS.aloadN X0.here hx rfl (hb hby dS1_0) rfl rfl ) ?_
  refine Goes.go (fun t => XS.aloadN X0.here hx rfl (hb hby dS1_1) rfl rfl ) ?_
  refine Goes.go (fun t => XS.iconst X0.here hx rfl (hb hby dS1_2)) ?_
  refine Goes.go (fun t => XS.aloadN X0.here hx rfl (hb hby dS1_3) rfl rfl ) ?_
  show Goes p e below _ (s₁.setTop (mkF m 4 #[.val (.ref o0), .val (.ref o1)] [(.ref o1), (.int (0 : Int32)), (.ref o1), (.ref o0)]))
  have hlen : cl.slots.size.toInt32 = 0 := by rw [Sz]; rfl
  refine Goes.go (X0.arraylength hx (by rw [e0]; exact Ar.1) (State.isArrayOf_alike hZ.alike Ar.2.1) (g := (mkF m 4 #[.val (.ref o0), .val (.ref o1)] [(.ref o1), (.int (0 : Int32)), (.ref o1), (.ref o0)])) rfl rfl (hb hby dS1_4)) ?_
  rw [hlen]
  show Goes p e below _ (s₁.setTop (mkF m 5 #[.val (.ref o0), .val (.ref o1)] [(.int (0 : Int32)), (.int (0 : Int32)), (.ref o1), (.ref o0)]))
  refine Goes.go (fun t => XS.aconstNull X0.here hx rfl (hb hby dS1_5)) ?_
  show Goes p e below _ (s₁.setTop (mkF m 6 #[.val (.ref o0), .val (.ref o1)] [.null, (.int (0 : Int32)), (.int (0 : Int32)), (.ref o1), (.ref o0)]))
  have hh0 := hh
  obtain ⟨_, _, ⟨T1, L1, k1, n1⟩, -, X1, hS1, hg1, ⟨Lc1, hQ1, l1, y1, z1, CQ1⟩, st1⟩ := X0.specialBackS hx (y := (⟨"java/lang/String", "<init>", "([CIILjava/lang/Void;)V"⟩ : MethodName)) rfl hown (mvT hZ (own_h hw 18 rfl)) (mvT hZ (own_h hw 19 rfl)) (mvT hZ (own_h hw 21 rfl)) (by decide) (own_backSF (s := s) (vm0 := s.vm) (W := 0) (rmS4 l Z a0 hw [] o0 o1 h0 n0 Z0 E_o0 F_v F_c g_o0) hZ (own_h hw 21 rfl) (own_h hw 14 rfl) (by decide) (by decide) (own_ew hw) CH E_o0.lt SF0) (g := (mkF m 6 #[.val (.ref o0), .val (.ref o1)] [.null, (.int (0 : Int32)), (.int (0 : Int32)), (.ref o1), (.ref o0)])) rfl (by rw [hml]; rfl) (Steps.refl _) (a := o0) (argsL := [(.ref o1), (.int (0 : Int32)), (.int (0 : Int32)), .null]) (rest := []) (lenOf pdS1_0 rfl) rfl (by show 2 * 0 + _ ≤ _; exact Nat.le_of_eq rfl) (hb hby dS1_6) (fun _ _ => ⟨rfl, e0, (by decide : 0 + 4 ≤ _), (by decide : 0 + 8 ≤ _)⟩)
  dsimp only [Pt.U, Pt.locs, Pt.cells, Pt.slots] at X1 hS1 hg1 l1 y1 z1 st1 hQ1 CQ1
  subst l1 y1 z1
  obtain ⟨rfl, N1q, K1, S1⟩ := hQ1
  have N1 := Fr.app N0 N1q
  obtain ⟨X1, hS, hZ, hown⟩ := rebS (n1 := s₁.heap.size) hS (by rw [e0]; exact hk) X1 hS1 hg1 hZ hown
  have hk : T1.heap.size ≤ T1.heap.size := Nat.le_refl _
  have CH1 := CQ1.1
  have CR1 := CR0.trans CQ1
  refine Goes.via st1 ?_
  show Goes p e below _ (T1.setTop (mkF m 9 #[.val (.ref o0), .val (.ref o1)] []))
  exact Goes.outW X1 hS hk (fun _ => rfl) Bd.notSynchronized (fun fs hr => X1.returnOut hx Bd.returns (hb hby dS1_9) hr) ⟨rfl, N1, K1, S1⟩ (by rw [hh]; exact CR1.trans (CHv.at X1 hZ (own_ew hw) CH1)) (by decide) (by decide)

theorem dUR_0 : decode prog_176_method_4_code 0 = .ok (.ldc 83, 2) := by decide +kernel
theorem dUR_2 : decode prog_176_method_4_code 2 = .ok (.aload_n 0, 1) := by decide +kernel
theorem dUR_3 : decode prog_176_method_4_code 3 = .ok (.invokestatic 85, 3) := by decide +kernel
theorem dUR_6 : decode prog_176_method_4_code 6 = .ok (.return_, 1) := by decide +kernel
theorem pn_UR : plainName oQN = true := by first | (simp [plainName, overriddenIn]; done) | decide +kernel
theorem pdUR_0 : parseMethodDescriptor "(Ljava/lang/String;Ljava/lang/String;)V" = some ⟨[(.object "java/lang/String"), (.object "java/lang/String")], none⟩ := by decide +kernel
theorem ef_UR (m : MethodId) (o0 : Addr) : entryFrame m #[(.ref o0)] 1 = mkF m 0 #[.val (.ref o0)] [] := by first | (simp [entryFrame, mkF, argsToLocals, Value.category]; done) | rfl
def QUR (Z : State) (o0 : Addr) (z : Int32) (fm : Value) (wS : Addr) (wN : Addr) (cS : Cell) (cN : Cell) (cs : List Int32) (h0 : Heap) (n0 : Nat) (v : Option Value) (h : Heap) (L : List Loc) : Prop := v = none ∧ Fr n0 L ∧ Ext h0 h
set_option maxRecDepth 65536 in
set_option maxHeartbeats 40000000 in
theorem rmUR (l : Launch) (Z : State) (a0 : Array Value) (hw : ∀ d ∈ tables_1, d.before a0 Z = true) (ws : List Jvm.Cond) (o0 : Addr) (z : Int32) (fm : Value) (wS : Addr) (wN : Addr) (cS : Cell) (cN : Cell) (cs : List Int32) (h0 : Heap) (n0 : Nat) (Z0 : n0 ≤ h0.size) (V : own_env Z h0 z fm wS wN cS cN) (S : own_s Z h0 o0 cs) (hn : own_uri cs) :
    MetFree l (⟨oQN, "requireXmlNamespaceUri", "(Ljava/lang/String;)V"⟩ : MethodName) (head1 (Jvm.Cond.code (⟨oQN, "requireXmlNamespaceUri", "(Ljava/lang/String;)V"⟩ : MethodName) prog_176_method_4_code 1 none :: ws) (oR 5 2 72 69)) (fun a U => a = #[(.ref o0)] ∧ Z.Warmed39 U.vm ∧ U.heap = h0 ∧ CHv Z own_EL U.vm h0) (fun _ _ _ _ _ => True) (fun _ U o U' => ∃ v L, o = .returned v ∧ QUR Z o0 z fm wS wN cS cN cs h0 n0 v U'.heap L ∧ CHr Z own_EL U.vm U.heap U'.vm U'.heap ∧ ReturnedEndW U o U' L (oR 5 2 72 69).cells (oR 5 2 72 69).slots) := by
  refine MetFree.of_bodySF (plainFor_of_name pn_UR) hisR ?_
  intro p e s m args below meth c s₁ Bd hml0 hP hK
  obtain ⟨rfl, hZ, hh, CH⟩ := hP
  have hx := Bd.exec
  have hby := Bd.bytes
  have hml : c.maxLocals = 1 := hml0
  have hown : (s.setVm s.vm).vm.findClass oQN = some m.cls := findClass_of_methodNamed Bd.named
  have hnm := (name_of_methodNamed Bd.named Bd.method).1
  have X0 : Stand p l e (oR 5 2 72 69) (s.setVm s.vm) m #[(.ref o0)] below meth c s₁ [] 0 0 := Stand.of_body Bd
  have e0 : s₁.heap = h0 := by rw [← hh, Bd.state]; rfl
  have N0 := Fr.nil n0
  have hZ : Z.Warmed39 (s.setVm s.vm).vm := hZ
  have hS : s.Since s.vm h0.size := (State.WarmedH.refl s).since _
  have hk : h0.size ≤ h0.size := Nat.le_refl _
  have CR0 : CHr Z own_EL s.vm h0 s.vm h0 := CHr.refl CH
  show Goes p e below (fun o U' => ∃ v L, o = .returned v ∧ QUR Z o0 z fm wS wN cS cN cs h0 n0 v U'.heap L ∧ CHr Z own_EL s.vm s.heap U'.vm U'.heap ∧ ReturnedEndW s o U' L (oR 5 2 72 69).cells (oR 5 2 72 69).slots) _
  refine Goes.go (fun t k => castTop (ef_UR m o0) k) ?_
  show Goes p e below _ (s₁.setTop (mkF m 0 #[.val (.ref o0)] []))
  obtain ⟨a1, T1, h1, k1, X1, e1, E1, hS, hk, hZ, hown, CQ1, -, st1⟩ := ldcOH (s := s) (vm0 := s.vm) X0 hx hZ hown (own_h hw 171 rfl) (own_wS hw) e0 hS hk (own_ew hw) CH (g := (mkF m 0 #[.val (.ref o0)] [])) rfl (hb hby dUR_0) (n := 68) (by decide) (by decide) (by decide) (by decide)
  have CH1 := CQ1.1
  have CR1 := CR0.trans CQ1
  have Z1 : n0 ≤ h1.size := Nat.le_trans Z0 E1.1
  have B1 : Ext h0 h1 := own_ext_trans (⟨Nat.le_refl _, fun _ _ q => q⟩ : Ext h0 h0) E1
  have Kz1 : Keep h0 h1 [] := (Keep.refl h0 []).ext E1
  refine Goes.go st1 ?_
  show Goes p e below _ (T1.setTop (mkF m 2 #[.val (.ref o0)] [(.ref a1)]))
  refine Goes.go (fun t => XS.aloadN X1.here hx rfl (hb hby dUR_2) rfl rfl ) ?_
  show Goes p e below _ (T1.setTop (mkF m 3 #[.val (.ref o0)] [(.ref o0), (.ref a1)]))
  obtain ⟨_, _, ⟨T2, L2, k2, n2⟩, -, X2, ⟨Lc2, hQ2, l2, y2, z2⟩, st2⟩ := Jvm.LawKit.callS X1 hx (y := (⟨oXC, "requireXmlCharacters", "(Ljava/lang/String;Ljava/lang/String;)V"⟩ : MethodName)) hown (mvT hZ (own_h hw 172 rfl)) (mvT hZ (own_h hw 173 rfl)) (mvT hZ (own_h hw 155 rfl)) (mvT hZ (own_h hw 174 rfl)) (by decide) (backOf (W := 0) (rmXR l Z a0 hw [] a1 o0 z fm wS wN cS cN cs h1 n0 Z1 (V.ext B1) (S.ext B1) hn) hZ (own_h hw 174 rfl) (own_h hw 155 rfl) (by decide) (by decide)) (g := (mkF m 3 #[.val (.ref o0)] [(.ref o0), (.ref a1)])) rfl (by rw [hml]; rfl) (argsL := [(.ref a1), (.ref o0)]) (rest := []) (lenOf pdUR_0 rfl) rfl (by show 2 * 0 + _ ≤ _; exact Nat.le_of_eq rfl) (hb hby dUR_3) (fun _ _ => ⟨rfl, e1, (by decide : 2 + 0 ≤ _), (by decide : 72 + 0 ≤ _)⟩)
  dsimp only [Pt.U, Pt.locs, Pt.cells, Pt.slots] at X2 l2 y2 z2 st2 hQ2
  subst l2 y2 z2
  obtain ⟨rfl, N2q, e2q⟩ := hQ2
  have N2 := Fr.app N0 N2q
  refine Goes.go st2 ?_
  show Goes p e below _ (T2.setTop (mkF m 6 #[.val (.ref o0)] []))
  exact Goes.outW X2 hS (by rw [e2q]; exact hk) (fun _ => rfl) Bd.notSynchronized (fun fs hr => X2.returnOut hx Bd.returns (hb hby dUR_6) hr) (by rw [e2q]; exact ⟨rfl, N2, own_ext_of Kz1⟩) (by rw [hh, e2q]; exact CR1.trans (CHv.at X2 hZ (own_ew hw) CH1)) (by decide) (by decide)
theorem dQI_0 : decode prog_176_method_1_code 0 = .ok (.aload_n 0, 1) := by decide +kernel
theorem dQI_1 : decode prog_176_method_1_code 1 = .ok (.invokespecial 1, 3) := by decide +kernel
theorem dQI_4 : decode prog_176_method_1_code 4 = .ok (.aload_n 1, 1) := by decide +kernel
theorem dQI_5 : decode prog_176_method_1_code 5 = .ok (.ldc 7, 2) := by decide +kernel
theorem dQI_7 : decode prog_176_method_1_code 7 = .ok (.invokestatic 9, 3) := by decide +kernel
theorem dQI_10 : decode prog_176_method_1_code 10 = .ok (.pop, 1) := by decide +kernel
theorem dQI_11 : decode prog_176_method_1_code 11 = .ok (.aload_n 2, 1) := by decide +kernel
theorem dQI_12 : decode prog_176_method_1_code 12 = .ok (.ldc 15, 2) := by decide +kernel
theorem dQI_14 : decode prog_176_method_1_code 14 = .ok (.invokestatic 9, 3) := by decide +kernel
theorem dQI_17 : decode prog_176_method_1_code 17 = .ok (.pop, 1) := by decide +kernel
theorem dQI_18 : decode prog_176_method_1_code 18 = .ok (.aload_n 3, 1) := by decide +kernel
theorem dQI_19 : decode prog_176_method_1_code 19 = .ok (.ldc 17, 2) := by decide +kernel
theorem dQI_21 : decode prog_176_method_1_code 21 = .ok (.invokestatic 9, 3) := by decide +kernel
theorem dQI_24 : decode prog_176_method_1_code 24 = .ok (.pop, 1) := by decide +kernel
theorem dQI_25 : decode prog_176_method_1_code 25 = .ok (.aload_n 3, 1) := by decide +kernel
theorem dQI_26 : decode prog_176_method_1_code 26 = .ok (.invokestatic 19, 3) := by decide +kernel
theorem dQI_29 : decode prog_176_method_1_code 29 = .ok (.aload_n 2, 1) := by decide +kernel
theorem dQI_30 : decode prog_176_method_1_code 30 = .ok (.invokevirtual 25, 3) := by decide +kernel
theorem dQI_33 : decode prog_176_method_1_code 33 = .ok (.ifCond .ne 24, 3) := by decide +kernel
theorem dQI_57 : decode prog_176_method_1_code 57 = .ok (.aload_n 2, 1) := by decide +kernel
theorem dQI_58 : decode prog_176_method_1_code 58 = .ok (.invokevirtual 25, 3) := by decide +kernel
theorem dQI_61 : decode prog_176_method_1_code 61 = .ok (.ifCond .ne 24, 3) := by decide +kernel
theorem dQI_85 : decode prog_176_method_1_code 85 = .ok (.aload_n 1, 1) := by decide +kernel
theorem dQI_86 : decode prog_176_method_1_code 86 = .ok (.invokestatic 44, 3) := by decide +kernel
theorem dQI_89 : decode prog_176_method_1_code 89 = .ok (.aload_n 0, 1) := by decide +kernel
theorem dQI_90 : decode prog_176_method_1_code 90 = .ok (.aload_n 1, 1) := by decide +kernel
theorem dQI_91 : decode prog_176_method_1_code 91 = .ok (.putfield 47, 3) := by decide +kernel
theorem dQI_94 : decode prog_176_method_1_code 94 = .ok (.aload_n 0, 1) := by decide +kernel
theorem dQI_95 : decode prog_176_method_1_code 95 = .ok (.aload_n 2, 1) := by decide +kernel
theorem dQI_96 : decode prog_176_method_1_code 96 = .ok (.putfield 50, 3) := by decide +kernel
theorem dQI_99 : decode prog_176_method_1_code 99 = .ok (.aload_n 0, 1) := by decide +kernel
theorem dQI_100 : decode prog_176_method_1_code 100 = .ok (.aload_n 3, 1) := by decide +kernel
theorem dQI_101 : decode prog_176_method_1_code 101 = .ok (.putfield 52, 3) := by decide +kernel
theorem dQI_104 : decode prog_176_method_1_code 104 = .ok (.return_, 1) := by decide +kernel
theorem pn_QI : plainName oQN = true := by first | (simp [plainName, overriddenIn]; done) | decide +kernel
theorem pdQI_0 : parseMethodDescriptor "(Ljava/lang/Object;Ljava/lang/String;)Ljava/lang/Object;" = some ⟨[(.object "java/lang/Object"), (.object "java/lang/String")], some (.object "java/lang/Object")⟩ := by decide +kernel
theorem pdQI_1 : parseMethodDescriptor "(Ljava/lang/String;)V" = some ⟨[(.object "java/lang/String")], none⟩ := by decide +kernel
theorem pdQI_2 : parseMethodDescriptor "()Z" = some ⟨[], some .boolean⟩ := by decide +kernel
theorem ef_QI (m : MethodId) (o0 : Addr) (o1 : Addr) (o2 : Addr) (o3 : Addr) : entryFrame m #[(.ref o0), (.ref o1), (.ref o2), (.ref o3)] 4 = mkF m 0 #[.val (.ref o0), .val (.ref o1), .val (.ref o2), .val (.ref o3)] [] := by first | (simp [entryFrame, mkF, argsToLocals, Value.category]; done) | rfl
def QQI (Z : State) (o0 : Addr) (o1 : Addr) (o2 : Addr) (o3 : Addr) (z : Int32) (fm : Value) (wS : Addr) (wN : Addr) (cS : Cell) (cN : Cell) (csn : List Int32) (csl : List Int32) (h0 : Heap) (n0 : Nat) (v : Option Value) (h : Heap) (L : List Loc) : Prop := v = none ∧ Fr n0 L ∧ Keep h0 h [o0]
set_option maxRecDepth 65536 in
set_option maxHeartbeats 40000000 in
theorem rmQI (l : Launch) (Z : State) (a0 : Array Value) (hw : ∀ d ∈ tables_1, d.before a0 Z = true) (ws : List Jvm.Cond) (o0 : Addr) (o1 : Addr) (o2 : Addr) (o3 : Addr) (z : Int32) (fm : Value) (wS : Addr) (wN : Addr) (cS : Cell) (cN : Cell) (csn : List Int32) (csl : List Int32) (h0 : Heap) (n0 : Nat) (Z0 : n0 ≤ h0.size) (V : own_env Z h0 z fm wS wN cS cN) (S1 : own_s Z h0 o1 csn) (S2 : own_s Z h0 o2 []) (S3 : own_s Z h0 o3 csl) (hn1 : own_uri csn) (hn3 : own_name csl) (E_o0 : Exa Z h0 o0 oQN) (g_o0 : n0 ≤ o0) (F_namespaceUri : Fld Z h0 o0 oQN "namespaceUri" "Ljava/lang/String;" .null) (F_prefix : Fld Z h0 o0 oQN "prefix" "Ljava/lang/String;" .null) (F_localName : Fld Z h0 o0 oQN "localName" "Ljava/lang/String;" .null) :
    MetFree l (⟨oQN, "<init>", "(Ljava/lang/String;Ljava/lang/String;Ljava/lang/String;)V"⟩ : MethodName) (head1 (Jvm.Cond.code (⟨oQN, "<init>", "(Ljava/lang/String;Ljava/lang/String;Ljava/lang/String;)V"⟩ : MethodName) prog_176_method_1_code 4 none :: ws) (oR 7 8 192 95)) (fun a U => a = #[(.ref o0), (.ref o1), (.ref o2), (.ref o3)] ∧ Z.Warmed39 U.vm ∧ U.heap = h0 ∧ CHv Z own_EL U.vm h0) (fun _ _ _ _ _ => True) (fun _ U o U' => ∃ v L, o = .returned v ∧ QQI Z o0 o1 o2 o3 z fm wS wN cS cN csn csl h0 n0 v U'.heap L ∧ CHr Z own_EL U.vm U.heap U'.vm U'.heap ∧ ReturnedEndW U o U' L (oR 7 8 192 95).cells (oR 7 8 192 95).slots) := by
  refine MetFree.of_bodySF (plainFor_of_name pn_QI) hisR ?_
  intro p e s m args below meth c s₁ Bd hml0 hP hK
  obtain ⟨rfl, hZ, hh, CH⟩ := hP
  have hx := Bd.exec
  have hby := Bd.bytes
  have hml : c.maxLocals = 4 := hml0
  have hown : (s.setVm s.vm).vm.findClass oQN = some m.cls := findClass_of_methodNamed Bd.named
  have hnm := (name_of_methodNamed Bd.named Bd.method).1
  have X0 : Stand p l e (oR 7 8 192 95) (s.setVm s.vm) m #[(.ref o0), (.ref o1), (.ref o2), (.ref o3)] below meth c s₁ [] 0 0 := Stand.of_body Bd
  have e0 : s₁.heap = h0 := by rw [← hh, Bd.state]; rfl
  have N0 := Fr.nil n0
  have hZ : Z.Warmed39 (s.setVm s.vm).vm := hZ
  have hS : s.Since s.vm h0.size := (State.WarmedH.refl s).since _
  have hk : h0.size ≤ h0.size := Nat.le_refl _
  have CR0 : CHr Z own_EL s.vm h0 s.vm h0 := CHr.refl CH
  show Goes p e below (fun o U' => ∃ v L, o = .returned v ∧ QQI Z o0 o1 o2 o3 z fm wS wN cS cN csn csl h0 n0 v U'.heap L ∧ CHr Z own_EL s.vm s.heap U'.vm U'.heap ∧ ReturnedEndW s o U' L (oR 7 8 192 95).cells (oR 7 8 192 95).slots) _
  refine Goes.go (fun t k => castTop (ef_QI m o0 o1 o2 o3) k) ?_
  obtain ⟨E_s, F_c, ⟨t, kb, F_v, A_v⟩, hcs, hl⟩ := id S2
  show Goes p e below _ (s₁.setTop (mkF m 0 #[.val (.ref o0), .val (.ref o1), .val (.ref o2), .val (.ref o3)] []))
  refine Goes.go (fun t => XS.aloadN X0.here hx rfl (hb hby dQI_0) rfl rfl ) ?_
  show Goes p e below _ (s₁.setTop (mkF m 1 #[.val (.ref o0), .val (.ref o1), .val (.ref o2), .val (.ref o3)] [(.ref o0)]))
  obtain ⟨T1, X1, e1, st1⟩ := initO X0 hx hZ hown (own_h hw 187 rfl) (own_h hw 23 rfl) (own_h hw 24 rfl) e0 (g := (mkF m 1 #[.val (.ref o0), .val (.ref o1), .val (.ref o2), .val (.ref o3)] [(.ref o0)])) rfl (by rw [hml]; rfl) rfl (hb hby dQI_1) (by decide) (W := 0) (by show 2 * 0 + _ ≤ _; exact Nat.le_of_eq rfl) (by decide)
  refine Goes.go st1 ?_
  show Goes p e below _ (T1.setTop (mkF m 4 #[.val (.ref o0), .val (.ref o1), .val (.ref o2), .val (.ref o3)] []))
  refine Goes.go (fun t => XS.aloadN X1.here hx rfl (hb hby dQI_4) rfl rfl ) ?_
  show Goes p e below _ (T1.setTop (mkF m 5 #[.val (.ref o0), .val (.ref o1), .val (.ref o2), .val (.ref o3)] [(.ref o1)]))
  obtain ⟨a2, T2, h2, k2, X2, e2, E2, hS, hk, hZ, hown, CQ2, -, st2⟩ := ldcOH (s := s) (vm0 := s.vm) X1 hx hZ hown (own_h hw 188 rfl) (own_wS hw) e1 hS hk (own_ew hw) CH (g := (mkF m 5 #[.val (.ref o0), .val (.ref o1), .val (.ref o2), .val (.ref o3)] [(.ref o1)])) rfl (hb hby dQI_5) (n := 48) (by decide) (by decide) (by decide) (by decide)
  have CH2 := CQ2.1
  have CR2 := CR0.trans CQ2
  have Z2 : n0 ≤ h2.size := Nat.le_trans Z0 E2.1
  have E_o0_2 : Exa Z h2 o0 oQN := E_o0.ext E2
  have B2 : Ext h0 h2 := own_ext_trans (⟨Nat.le_refl _, fun _ _ q => q⟩ : Ext h0 h0) E2
  have F_namespaceUri_o0_2 : Fld Z h2 o0 oQN "namespaceUri" "Ljava/lang/String;" .null := F_namespaceUri.ext E2
  have F_prefix_o0_2 : Fld Z h2 o0 oQN "prefix" "Ljava/lang/String;" .null := F_prefix.ext E2
  have F_localName_o0_2 : Fld Z h2 o0 oQN "localName" "Ljava/lang/String;" .null := F_localName.ext E2
  have Kz2 : Keep h0 h2 [o0] := (Keep.refl h0 [o0]).ext E2
  refine Goes.go st2 ?_
  show Goes p e below _ (T2.setTop (mkF m 7 #[.val (.ref o0), .val (.ref o1), .val (.ref o2), .val (.ref o3)] [(.ref a2), (.ref o1)]))
  obtain ⟨_, _, ⟨T3, L3, k3, n3⟩, -, X3, ⟨Lc3, hQ3, l3, y3, z3⟩, st3⟩ := Jvm.LawKit.callS X2 hx (y := (⟨"java/util/Objects", "requireNonNull", "(Ljava/lang/Object;Ljava/lang/String;)Ljava/lang/Object;"⟩ : MethodName)) hown (mvT hZ (own_h hw 189 rfl)) (mvT hZ (own_h hw 190 rfl)) (mvT hZ (own_h hw 191 rfl)) (mvT hZ (own_h hw 192 rfl)) (by decide) (backOf (W := 0) (rmRN l Z a0 hw [] o1 a2 h2 n0 Z2) hZ (own_h hw 192 rfl) (own_h hw 191 rfl) (by decide) (by decide)) (g := (mkF m 7 #[.val (.ref o0), .val (.ref o1), .val (.ref o2), .val (.ref o3)] [(.ref a2), (.ref o1)])) rfl (by rw [hml]; rfl) (argsL := [(.ref o1), (.ref a2)]) (rest := []) (lenOf pdQI_0 rfl) rfl (by show 2 * 0 + _ ≤ _; exact Nat.le_of_eq rfl) (hb hby dQI_7) (fun _ _ => ⟨rfl, e2, (by decide : 2 + 0 ≤ _), (by decide : 52 + 0 ≤ _)⟩)
  dsimp only [Pt.U, Pt.locs, Pt.cells, Pt.slots] at X3 l3 y3 z3 st3 hQ3
  subst l3 y3 z3
  obtain ⟨rfl, N3q, e3q⟩ := hQ3
  have N3 := Fr.app N0 N3q
  refine Goes.go st3 ?_
  show Goes p e below _ (T3.setTop (mkF m 10 #[.val (.ref o0), .val (.ref o1), .val (.ref o2), .val (.ref o3)] [(.ref o1)]))
  refine Goes.go (fun t => XS.pop X3.here hx rfl (hb hby dQI_10) rfl rfl) ?_
  show Goes p e below _ (T3.setTop (mkF m 11 #[.val (.ref o0), .val (.ref o1), .val (.ref o2), .val (.ref o3)] []))
  refine Goes.go (fun t => XS.aloadN X3.here hx rfl (hb hby dQI_11) rfl rfl ) ?_
  show Goes p e below _ (T3.setTop (mkF m 12 #[.val (.ref o0), .val (.ref o1), .val (.ref o2), .val (.ref o3)] [(.ref o2)]))
  obtain ⟨a4, T4, h4, k4, X4, e4, E4, hS, hk, hZ, hown, CQ4, -, st4⟩ := ldcOH (s := s) (vm0 := T2.vm) X3 hx hZ hown (own_h hw 193 rfl) (own_wS hw) e3q hS hk (own_ew hw) CH2 (g := (mkF m 12 #[.val (.ref o0), .val (.ref o1), .val (.ref o2), .val (.ref o3)] [(.ref o2)])) rfl (hb hby dQI_12) (n := 24) (by decide) (by decide) (by decide) (by decide)
  have CH4 := CQ4.1
  have CR4 := CR2.trans CQ4
  have Z4 : n0 ≤ h4.size := Nat.le_trans Z2 E4.1
  have E_o0_4 : Exa Z h4 o0 oQN := E_o0_2.ext E4
  have B4 : Ext h0 h4 := own_ext_trans B2 E4
  have F_namespaceUri_o0_4 : Fld Z h4 o0 oQN "namespaceUri" "Ljava/lang/String;" .null := F_namespaceUri_o0_2.ext E4
  have F_prefix_o0_4 : Fld Z h4 o0 oQN "prefix" "Ljava/lang/String;" .null := F_prefix_o0_2.ext E4
  have F_localName_o0_4 : Fld Z h4 o0 oQN "localName" "Ljava/lang/String;" .null := F_localName_o0_2.ext E4
  have Kz4 : Keep h0 h4 [o0] := Kz2.ext E4
  refine Goes.go st4 ?_
  show Goes p e below _ (T4.setTop (mkF m 14 #[.val (.ref o0), .val (.ref o1), .val (.ref o2), .val (.ref o3)] [(.ref a4), (.ref o2)]))
  obtain ⟨_, _, ⟨T5, L5, k5, n5⟩, -, X5, ⟨Lc5, hQ5, l5, y5, z5⟩, st5⟩ := Jvm.LawKit.callS X4 hx (y := (⟨"java/util/Objects", "requireNonNull", "(Ljava/lang/Object;Ljava/lang/String;)Ljava/lang/Object;"⟩ : MethodName)) hown (mvT hZ (own_h hw 189 rfl)) (mvT hZ (own_h hw 190 rfl)) (mvT hZ (own_h hw 191 rfl)) (mvT hZ (own_h hw 192 rfl)) (by decide) (backOf (W := 0) (rmRN l Z a0 hw [] o2 a4 h4 n0 Z4) hZ (own_h hw 192 rfl) (own_h hw 191 rfl) (by decide) (by decide)) (g := (mkF m 14 #[.val (.ref o0), .val (.ref o1), .val (.ref o2), .val (.ref o3)] [(.ref a4), (.ref o2)])) rfl (by rw [hml]; rfl) (argsL := [(.ref o2), (.ref a4)]) (rest := []) (lenOf pdQI_0 rfl) rfl (by show 2 * 0 + _ ≤ _; exact Nat.le_of_eq rfl) (hb hby dQI_14) (fun _ _ => ⟨rfl, e4, (by decide : 4 + 0 ≤ _), (by decide : 80 + 0 ≤ _)⟩)
  dsimp only [Pt.U, Pt.locs, Pt.cells, Pt.slots] at X5 l5 y5 z5 st5 hQ5
  subst l5 y5 z5
  obtain ⟨rfl, N5q, e5q⟩ := hQ5
  have N5 := Fr.app N3 N5q
  refine Goes.go st5 ?_
  show Goes p e below _ (T5.setTop (mkF m 17 #[.val (.ref o0), .val (.ref o1), .val (.ref o2), .val (.ref o3)] [(.ref o2)]))
  refine Goes.go (fun t => XS.pop X5.here hx rfl (hb hby dQI_17) rfl rfl) ?_
  show Goes p e below _ (T5.setTop (mkF m 18 #[.val (.ref o0), .val (.ref o1), .val (.ref o2), .val (.ref o3)] []))
  refine Goes.go (fun t => XS.aloadN X5.here hx rfl (hb hby dQI_18) rfl rfl ) ?_
  show Goes p e below _ (T5.setTop (mkF m 19 #[.val (.ref o0), .val (.ref o1), .val (.ref o2), .val (.ref o3)] [(.ref o3)]))
  obtain ⟨a6, T6, h6, k6, X6, e6, E6, hS, hk, hZ, hown, CQ6, -, st6⟩ := ldcOH (s := s) (vm0 := T4.vm) X5 hx hZ hown (own_h hw 194 rfl) (own_wS hw) e5q hS hk (own_ew hw) CH4 (g := (mkF m 19 #[.val (.ref o0), .val (.ref o1), .val (.ref o2), .val (.ref o3)] [(.ref o3)])) rfl (hb hby dQI_19) (n := 36) (by decide) (by decide) (by decide) (by decide)
  have CH6 := CQ6.1
  have CR6 := CR4.trans CQ6
  have Z6 : n0 ≤ h6.size := Nat.le_trans Z4 E6.1
  have E_o0_6 : Exa Z h6 o0 oQN := E_o0_4.ext E6
  have B6 : Ext h0 h6 := own_ext_trans B4 E6
  have F_namespaceUri_o0_6 : Fld Z h6 o0 oQN "namespaceUri" "Ljava/lang/String;" .null := F_namespaceUri_o0_4.ext E6
  have F_prefix_o0_6 : Fld Z h6 o0 oQN "prefix" "Ljava/lang/String;" .null := F_prefix_o0_4.ext E6
  have F_localName_o0_6 : Fld Z h6 o0 oQN "localName" "Ljava/lang/String;" .null := F_localName_o0_4.ext E6
  have Kz6 : Keep h0 h6 [o0] := Kz4.ext E6
  refine Goes.go st6 ?_
  show Goes p e below _ (T6.setTop (mkF m 21 #[.val (.ref o0), .val (.ref o1), .val (.ref o2), .val (.ref o3)] [(.ref a6), (.ref o3)]))
  obtain ⟨_, _, ⟨T7, L7, k7, n7⟩, -, X7, ⟨Lc7, hQ7, l7, y7, z7⟩, st7⟩ := Jvm.LawKit.callS X6 hx (y := (⟨"java/util/Objects", "requireNonNull", "(Ljava/lang/Object;Ljava/lang/String;)Ljava/lang/Object;"⟩ : MethodName)) hown (mvT hZ (own_h hw 189 rfl)) (mvT hZ (own_h hw 190 rfl)) (mvT hZ (own_h hw 191 rfl)) (mvT hZ (own_h hw 192 rfl)) (by decide) (backOf (W := 0) (rmRN l Z a0 hw [] o3 a6 h6 n0 Z6) hZ (own_h hw 192 rfl) (own_h hw 191 rfl) (by decide) (by decide)) (g := (mkF m 21 #[.val (.ref o0), .val (.ref o1), .val (.ref o2), .val (.ref o3)] [(.ref a6), (.ref o3)])) rfl (by rw [hml]; rfl) (argsL := [(.ref o3), (.ref a6)]) (rest := []) (lenOf pdQI_0 rfl) rfl (by show 2 * 0 + _ ≤ _; exact Nat.le_of_eq rfl) (hb hby dQI_21) (fun _ _ => ⟨rfl, e6, (by decide : 6 + 0 ≤ _), (by decide : 120 + 0 ≤ _)⟩)
  dsimp only [Pt.U, Pt.locs, Pt.cells, Pt.slots] at X7 l7 y7 z7 st7 hQ7
  subst l7 y7 z7
  obtain ⟨rfl, N7q, e7q⟩ := hQ7
  have N7 := Fr.app N5 N7q
  refine Goes.go st7 ?_
  show Goes p e below _ (T7.setTop (mkF m 24 #[.val (.ref o0), .val (.ref o1), .val (.ref o2), .val (.ref o3)] [(.ref o3)]))
  refine Goes.go (fun t => XS.pop X7.here hx rfl (hb hby dQI_24) rfl rfl) ?_
  show Goes p e below _ (T7.setTop (mkF m 25 #[.val (.ref o0), .val (.ref o1), .val (.ref o2), .val (.ref o3)] []))
  refine Goes.go (fun t => XS.aloadN X7.here hx rfl (hb hby dQI_25) rfl rfl ) ?_
  show Goes p e below _ (T7.setTop (mkF m 26 #[.val (.ref o0), .val (.ref o1), .val (.ref o2), .val (.ref o3)] [(.ref o3)]))
  obtain ⟨_, _, ⟨T8, L8, k8, n8⟩, -, X8, ⟨Lc8, hQ8, l8, y8, z8⟩, st8⟩ := Jvm.LawKit.callS X7 hx (y := (⟨oQN, "requireLocalName", "(Ljava/lang/String;)V"⟩ : MethodName)) hown (mvT hZ (own_h hw 195 rfl)) (mvT hZ (own_h hw 100 rfl)) (mvT hZ (own_h hw 101 rfl)) (mvT hZ (own_h hw 102 rfl)) (by decide) (backOf (W := 0) (rmRL l Z a0 hw [] o3 z fm wS wN cS cN csl h6 n0 Z6 (V.ext B6) (S3.ext B6) hn3) hZ (own_h hw 102 rfl) (own_h hw 101 rfl) (by decide) (by decide)) (g := (mkF m 26 #[.val (.ref o0), .val (.ref o1), .val (.ref o2), .val (.ref o3)] [(.ref o3)])) rfl (by rw [hml]; rfl) (argsL := [(.ref o3)]) (rest := []) (lenOf pdQI_1 rfl) rfl (by show 2 * 0 + _ ≤ _; exact Nat.le_of_eq rfl) (hb hby dQI_26) (fun _ _ => ⟨rfl, e7q, (by decide : 6 + 0 ≤ _), (by decide : 120 + 0 ≤ _)⟩)
  dsimp only [Pt.U, Pt.locs, Pt.cells, Pt.slots] at X8 l8 y8 z8 st8 hQ8
  subst l8 y8 z8
  obtain ⟨rfl, N8q, e8q⟩ := hQ8
  have N8 := Fr.app N7 N8q
  refine Goes.go st8 ?_
  show Goes p e below _ (T8.setTop (mkF m 29 #[.val (.ref o0), .val (.ref o1), .val (.ref o2), .val (.ref o3)] []))
  refine Goes.go (fun t => XS.aloadN X8.here hx rfl (hb hby dQI_29) rfl rfl ) ?_
  show Goes p e below _ (T8.setTop (mkF m 30 #[.val (.ref o0), .val (.ref o1), .val (.ref o2), .val (.ref o3)] [(.ref o2)]))
  obtain ⟨cq9, kq9, q9a, q9b, q9c⟩ := isOf hZ e8q (E_s.ext B6)
  obtain ⟨_, _, ⟨T9, L9, k9, n9⟩, -, X9, ⟨Lc9, hQ9, l9, y9, z9⟩, st9⟩ := X8.virtualBack hx (y := (⟨"java/lang/String", "isEmpty", "()Z"⟩ : MethodName)) (z := (⟨"java/lang/String", "isEmpty", "()Z"⟩ : MethodName)) hown (mvT hZ (own_h hw 196 rfl)) (mvT hZ (own_h hw 197 rfl)) (notFace_of_selects (args := #[]) (mvT hZ (own_h hw 199 rfl))) (mvT hZ (own_h hw 199 rfl)) (mvT hZ (own_h hw 198 rfl)) (by decide) (StrChars.Road.empW (W := 0) hZ (fun d hd => hw d (own_wEmp d hd)) (kI := 4) (own_h hw 13 rfl) (E_s.ext B6) (F_v.ext B6) (F_c.ext B6) (A_v.ext B6) (own_cod hcs) (own_up hcs) hl (by decide) (by decide)) q9a q9c (g := (mkF m 30 #[.val (.ref o0), .val (.ref o1), .val (.ref o2), .val (.ref o3)] [(.ref o2)])) rfl (by rw [hml]; rfl) (Steps.refl _) (argsL := []) (rest := []) (lenOf pdQI_2 rfl) rfl (by show 2 * 0 + _ ≤ _; exact Nat.le_of_eq rfl) (hb hby dQI_30) (fun _ _ => ⟨rfl, e8q, (by decide : 6 + 0 ≤ _), (by decide : 120 + 0 ≤ _)⟩)
  dsimp only [Pt.U, Pt.locs, Pt.cells, Pt.slots] at X9 l9 y9 z9 st9 hQ9
  subst l9 y9 z9
  obtain ⟨rfl, rfl, e9q⟩ := hQ9
  have N9q : Fr n0 ([] : List Loc) := Fr.nil n0
  have N9 := Fr.app N8 N9q
  refine Goes.via st9 ?_
  show Goes p e below _ (T9.setTop (mkF m 33 #[.val (.ref o0), .val (.ref o1), .val (.ref o2), .val (.ref o3)] [(.int (1 : Int32))]))
  refine Goes.go (fun t => XS.ifYes X9.here hx rfl (pc0 := 33) (pc' := 57) rfl (hb hby dQI_33) rfl (Jvm.Free.XT.i0_ne_t (by decide)) (by decide) (by decide)) ?_
  show Goes p e below _ (T9.setTop (mkF m 57 #[.val (.ref o0), .val (.ref o1), .val (.ref o2), .val (.ref o3)] []))
  refine Goes.go (fun t => XS.aloadN X9.here hx rfl (hb hby dQI_57) rfl rfl ) ?_
  show Goes p e below _ (T9.setTop (mkF m 58 #[.val (.ref o0), .val (.ref o1), .val (.ref o2), .val (.ref o3)] [(.ref o2)]))
  obtain ⟨cq10, kq10, q10a, q10b, q10c⟩ := isOf hZ e9q (E_s.ext B6)
  obtain ⟨_, _, ⟨T10, L10, k10, n10⟩, -, X10, ⟨Lc10, hQ10, l10, y10, z10⟩, st10⟩ := X9.virtualBack hx (y := (⟨"java/lang/String", "isEmpty", "()Z"⟩ : MethodName)) (z := (⟨"java/lang/String", "isEmpty", "()Z"⟩ : MethodName)) hown (mvT hZ (own_h hw 196 rfl)) (mvT hZ (own_h hw 197 rfl)) (notFace_of_selects (args := #[]) (mvT hZ (own_h hw 199 rfl))) (mvT hZ (own_h hw 199 rfl)) (mvT hZ (own_h hw 198 rfl)) (by decide) (StrChars.Road.empW (W := 0) hZ (fun d hd => hw d (own_wEmp d hd)) (kI := 4) (own_h hw 13 rfl) (E_s.ext B6) (F_v.ext B6) (F_c.ext B6) (A_v.ext B6) (own_cod hcs) (own_up hcs) hl (by decide) (by decide)) q10a q10c (g := (mkF m 58 #[.val (.ref o0), .val (.ref o1), .val (.ref o2), .val (.ref o3)] [(.ref o2)])) rfl (by rw [hml]; rfl) (Steps.refl _) (argsL := []) (rest := []) (lenOf pdQI_2 rfl) rfl (by show 2 * 0 + _ ≤ _; exact Nat.le_of_eq rfl) (hb hby dQI_58) (fun _ _ => ⟨rfl, e9q, (by decide : 6 + 0 ≤ _), (by decide : 120 + 0 ≤ _)⟩)
  dsimp only [Pt.U, Pt.locs, Pt.cells, Pt.slots] at X10 l10 y10 z10 st10 hQ10
  subst l10 y10 z10
  obtain ⟨rfl, rfl, e10q⟩ := hQ10
  have N10q : Fr n0 ([] : List Loc) := Fr.nil n0
  have N10 := Fr.app N9 N10q
  refine Goes.via st10 ?_
  show Goes p e below _ (T10.setTop (mkF m 61 #[.val (.ref o0), .val (.ref o1), .val (.ref o2), .val (.ref o3)] [(.int (1 : Int32))]))
  refine Goes.go (fun t => XS.ifYes X10.here hx rfl (pc0 := 61) (pc' := 85) rfl (hb hby dQI_61) rfl (Jvm.Free.XT.i0_ne_t (by decide)) (by decide) (by decide)) ?_
  show Goes p e below _ (T10.setTop (mkF m 85 #[.val (.ref o0), .val (.ref o1), .val (.ref o2), .val (.ref o3)] []))
  refine Goes.go (fun t => XS.aloadN X10.here hx rfl (hb hby dQI_85) rfl rfl ) ?_
  show Goes p e below _ (T10.setTop (mkF m 86 #[.val (.ref o0), .val (.ref o1), .val (.ref o2), .val (.ref o3)] [(.ref o1)]))
  obtain ⟨_, _, ⟨T11, L11, k11, n11⟩, -, X11, hS11, hg11, ⟨Lc11, hQ11, l11, y11, z11, CQ11⟩, st11⟩ := callSS X10 hx (y := (⟨oQN, "requireXmlNamespaceUri", "(Ljava/lang/String;)V"⟩ : MethodName)) hown (mvT hZ (own_h hw 201 rfl)) (mvT hZ (own_h hw 169 rfl)) (mvT hZ (own_h hw 101 rfl)) (mvT hZ (own_h hw 170 rfl)) (by decide) (backOfSH (s := s) (vm0 := T6.vm) (W := 0) (rmUR l Z a0 hw [] o1 z fm wS wN cS cN csn h6 n0 Z6 (V.ext B6) (S1.ext B6) hn1) hZ (own_h hw 170 rfl) (own_h hw 101 rfl) (by decide) (by decide) (own_ew hw) CH6) (g := (mkF m 86 #[.val (.ref o0), .val (.ref o1), .val (.ref o2), .val (.ref o3)] [(.ref o1)])) rfl (by rw [hml]; rfl) (argsL := [(.ref o1)]) (rest := []) (lenOf pdQI_1 rfl) rfl (by show 2 * 0 + _ ≤ _; exact Nat.le_of_eq rfl) (hb hby dQI_86) (fun _ _ => ⟨rfl, e10q, (by decide : 6 + 2 ≤ _), (by decide : 120 + 72 ≤ _)⟩)
  dsimp only [Pt.U, Pt.locs, Pt.cells, Pt.slots] at X11 hS11 hg11 l11 y11 z11 st11 hQ11 CQ11
  subst l11 y11 z11
  obtain ⟨rfl, N11q, E11⟩ := hQ11
  have N11 := Fr.app N10 N11q
  obtain ⟨X11, hS, hZ, hown⟩ := rebS (n1 := T10.heap.size) hS (by rw [e10q]; exact hk) X11 hS11 hg11 hZ hown
  have hk : T11.heap.size ≤ T11.heap.size := Nat.le_refl _
  have CH11 := CQ11.1
  have CR11 := CR6.trans CQ11
  refine Goes.via st11 ?_
  have Z11 : n0 ≤ T11.heap.size := Nat.le_trans Z6 E11.1
  have E_o0_11 : Exa Z T11.heap o0 oQN := E_o0_6.ext E11
  have B11 : Ext h0 T11.heap := own_ext_trans B6 E11
  have F_namespaceUri_o0_11 : Fld Z T11.heap o0 oQN "namespaceUri" "Ljava/lang/String;" .null := F_namespaceUri_o0_6.ext E11
  have F_prefix_o0_11 : Fld Z T11.heap o0 oQN "prefix" "Ljava/lang/String;" .null := F_prefix_o0_6.ext E11
  have F_localName_o0_11 : Fld Z T11.heap o0 oQN "localName" "Ljava/lang/String;" .null := F_localName_o0_6.ext E11
  have Kz11 : Keep h0 T11.heap [o0] := Kz6.ext E11
  show Goes p e below _ (T11.setTop (mkF m 89 #[.val (.ref o0), .val (.ref o1), .val (.ref o2), .val (.ref o3)] []))
  refine Goes.go (fun t => XS.aloadN X11.here hx rfl (hb hby dQI_89) rfl rfl ) ?_
  refine Goes.go (fun t => XS.aloadN X11.here hx rfl (hb hby dQI_90) rfl rfl ) ?_
  show Goes p e below _ (T11.setTop (mkF m 91 #[.val (.ref o0), .val (.ref o1), .val (.ref o2), .val (.ref o3)] [(.ref o1), (.ref o0)]))
  have sf12 : Safe Z own_EL T11.vm T11.heap o0 := (Safe.exa hZ.alike E_o0_11 (by decide) (by decide))
  obtain ⟨T13, h13, X13, e13, W13, st13⟩ := putF X11 hx hZ hown (host := "") (Or.inl (own_h hw 202 rfl)) Via.refl rfl F_namespaceUri_o0_11 E_o0_11 (Or.inr ⟨(own_h hw 203 rfl), rfl, hnm⟩) (own_h hw 182 rfl) (ty := (.object "java/lang/String")) (by decide) rfl rfl (g := (mkF m 91 #[.val (.ref o0), .val (.ref o1), .val (.ref o2), .val (.ref o3)] [(.ref o1), (.ref o0)])) rfl rfl (hb hby dQI_91)
  have F_namespaceUri_o0_13 : Fld Z h13 o0 oQN "namespaceUri" "Ljava/lang/String;" (.ref o1) := F_namespaceUri_o0_11.same W13
  have F_prefix_o0_13 : Fld Z h13 o0 oQN "prefix" "Ljava/lang/String;" .null := F_prefix_o0_11.other W13 (Or.inr (slot_ne (Or.inr (own_h hw 205 rfl)) (Or.inr (own_h hw 203 rfl)) (by decide) (t := (.object "java/lang/String")) (t' := (.object "java/lang/String")) (by decide) (by decide)))
  have F_localName_o0_13 : Fld Z h13 o0 oQN "localName" "Ljava/lang/String;" .null := F_localName_o0_11.other W13 (Or.inr (slot_ne (Or.inr (own_h hw 207 rfl)) (Or.inr (own_h hw 203 rfl)) (by decide) (t := (.object "java/lang/String")) (t' := (.object "java/lang/String")) (by decide) (by decide)))
  have CQ13 := CHr.wr W13 sf12 CH11
  have CH13 := CQ13.1
  have CR13 := CR11.trans CQ13
  have hk := Nat.le_trans hk (Nat.le_of_eq W13.size.symm)
  have Z13 : n0 ≤ h13.size := Nat.le_trans Z11 (Nat.le_of_eq W13.size.symm)
  have E_o0_13 : Exa Z h13 o0 oQN := E_o0_11.wr W13
  have Kz13 : Keep h0 h13 [o0] := Kz11.wr W13 (Or.inl (List.mem_of_getElem? (i := 0) rfl))
  have N13 := Fr.snoc X13 N11 g_o0
  refine Goes.go st13 ?_
  show Goes p e below _ (T13.setTop (mkF m 94 #[.val (.ref o0), .val (.ref o1), .val (.ref o2), .val (.ref o3)] []))
  refine Goes.go (fun t => XS.aloadN X13.here hx rfl (hb hby dQI_94) rfl rfl ) ?_
  refine Goes.go (fun t => XS.aloadN X13.here hx rfl (hb hby dQI_95) rfl rfl ) ?_
  show Goes p e below _ (T13.setTop (mkF m 96 #[.val (.ref o0), .val (.ref o1), .val (.ref o2), .val (.ref o3)] [(.ref o2), (.ref o0)]))
  have sf14 : Safe Z own_EL T11.vm h13 o0 := (Safe.exa hZ.alike E_o0_13 (by decide) (by decide))
  obtain ⟨T15, h15, X15, e15, W15, st15⟩ := putF X13 hx hZ hown (host := "") (Or.inl (own_h hw 204 rfl)) Via.refl e13 F_prefix_o0_13 E_o0_13 (Or.inr ⟨(own_h hw 205 rfl), rfl, hnm⟩) (own_h hw 182 rfl) (ty := (.object "java/lang/String")) (by decide) rfl rfl (g := (mkF m 96 #[.val (.ref o0), .val (.ref o1), .val (.ref o2), .val (.ref o3)] [(.ref o2), (.ref o0)])) rfl rfl (hb hby dQI_96)
  have F_namespaceUri_o0_15 : Fld Z h15 o0 oQN "namespaceUri" "Ljava/lang/String;" (.ref o1) := F_namespaceUri_o0_13.other W15 (Or.inr (slot_ne (Or.inr (own_h hw 203 rfl)) (Or.inr (own_h hw 205 rfl)) (by decide) (t := (.object "java/lang/String")) (t' := (.object "java/lang/String")) (by decide) (by decide)))
  have F_prefix_o0_15 : Fld Z h15 o0 oQN "prefix" "Ljava/lang/String;" (.ref o2) := F_prefix_o0_13.same W15
  have F_localName_o0_15 : Fld Z h15 o0 oQN "localName" "Ljava/lang/String;" .null := F_localName_o0_13.other W15 (Or.inr (slot_ne (Or.inr (own_h hw 207 rfl)) (Or.inr (own_h hw 205 rfl)) (by decide) (t := (.object "java/lang/String")) (t' := (.object "java/lang/String")) (by decide) (by decide)))
  have CQ15 := CHr.wr W15 sf14 CH13
  have CH15 := CQ15.1
  have CR15 := CR13.trans CQ15
  have hk := Nat.le_trans hk (Nat.le_of_eq W15.size.symm)
  have Z15 : n0 ≤ h15.size := Nat.le_trans Z13 (Nat.le_of_eq W15.size.symm)
  have E_o0_15 : Exa Z h15 o0 oQN := E_o0_13.wr W15
  have Kz15 : Keep h0 h15 [o0] := Kz13.wr W15 (Or.inl (List.mem_of_getElem? (i := 0) rfl))
  have N15 := Fr.snoc X15 N13 g_o0
  refine Goes.go st15 ?_
  show Goes p e below _ (T15.setTop (mkF m 99 #[.val (.ref o0), .val (.ref o1), .val (.ref o2), .val (.ref o3)] []))
  refine Goes.go (fun t => XS.aloadN X15.here hx rfl (hb hby dQI_99) rfl rfl ) ?_
  refine Goes.go (fun t => XS.aloadN X15.here hx rfl (hb hby dQI_100) rfl rfl ) ?_
  show Goes p e below _ (T15.setTop (mkF m 101 #[.val (.ref o0), .val (.ref o1), .val (.ref o2), .val (.ref o3)] [(.ref o3), (.ref o0)]))
  have sf16 : Safe Z own_EL T11.vm h15 o0 := (Safe.exa hZ.alike E_o0_15 (by decide) (by decide))
  obtain ⟨T17, h17, X17, e17, W17, st17⟩ := putF X15 hx hZ hown (host := "") (Or.inl (own_h hw 206 rfl)) Via.refl e15 F_localName_o0_15 E_o0_15 (Or.inr ⟨(own_h hw 207 rfl), rfl, hnm⟩) (own_h hw 182 rfl) (ty := (.object "java/lang/String")) (by decide) rfl rfl (g := (mkF m 101 #[.val (.ref o0), .val (.ref o1), .val (.ref o2), .val (.ref o3)] [(.ref o3), (.ref o0)])) rfl rfl (hb hby dQI_101)
  have F_namespaceUri_o0_17 : Fld Z h17 o0 oQN "namespaceUri" "Ljava/lang/String;" (.ref o1) := F_namespaceUri_o0_15.other W17 (Or.inr (slot_ne (Or.inr (own_h hw 203 rfl)) (Or.inr (own_h hw 207 rfl)) (by decide) (t := (.object "java/lang/String")) (t' := (.object "java/lang/String")) (by decide) (by decide)))
  have F_prefix_o0_17 : Fld Z h17 o0 oQN "prefix" "Ljava/lang/String;" (.ref o2) := F_prefix_o0_15.other W17 (Or.inr (slot_ne (Or.inr (own_h hw 205 rfl)) (Or.inr (own_h hw 207 rfl)) (by decide) (t := (.object "java/lang/String")) (t' := (.object "java/lang/String")) (by decide) (by decide)))
  have F_localName_o0_17 : Fld Z h17 o0 oQN "localName" "Ljava/lang/String;" (.ref o3) := F_localName_o0_15.same W17
  have CQ17 := CHr.wr W17 sf16 CH15
  have CH17 := CQ17.1
  have CR17 := CR15.trans CQ17
  have hk := Nat.le_trans hk (Nat.le_of_eq W17.size.symm)
  have Z17 : n0 ≤ h17.size := Nat.le_trans Z15 (Nat.le_of_eq W17.size.symm)
  have E_o0_17 : Exa Z h17 o0 oQN := E_o0_15.wr W17
  have Kz17 : Keep h0 h17 [o0] := Kz15.wr W17 (Or.inl (List.mem_of_getElem? (i := 0) rfl))
  have N17 := Fr.snoc X17 N15 g_o0
  refine Goes.go st17 ?_
  show Goes p e below _ (T17.setTop (mkF m 104 #[.val (.ref o0), .val (.ref o1), .val (.ref o2), .val (.ref o3)] []))
  exact Goes.outW X17 hS (by rw [e17]; exact hk) (fun _ => rfl) Bd.notSynchronized (fun fs hr => X17.returnOut hx Bd.returns (hb hby dQI_104) hr) (by rw [e17]; exact ⟨rfl, N17, Kz17⟩) (by rw [hh, e17]; exact CR17.trans (CHv.at X17 hZ (own_ew hw) CH17)) (by decide) (by decide)
theorem dM0_0 : decode prog_174_method_2_code 0 = .ok (.aload_n 1, 1) := by decide +kernel
theorem dM0_1 : decode prog_174_method_2_code 1 = .ok (.ifnull 7, 3) := by decide +kernel
theorem dM0_8 : decode prog_174_method_2_code 8 = .ok (.aload_n 0, 1) := by decide +kernel
theorem dM0_9 : decode prog_174_method_2_code 9 = .ok (.ifnull 7, 3) := by decide +kernel
theorem dM0_16 : decode prog_174_method_2_code 16 = .ok (.aconst_null, 1) := by decide +kernel
theorem dM0_17 : decode prog_174_method_2_code 17 = .ok (.astore_n 2, 1) := by decide +kernel
theorem dM0_18 : decode prog_174_method_2_code 18 = .ok (.aload_n 0, 1) := by decide +kernel
theorem dM0_19 : decode prog_174_method_2_code 19 = .ok (.ifnull 19, 3) := by decide +kernel
theorem dM0_38 : decode prog_174_method_2_code 38 = .ok (.new 8, 3) := by decide +kernel
theorem dM0_41 : decode prog_174_method_2_code 41 = .ok (.dup, 1) := by decide +kernel
theorem dM0_42 : decode prog_174_method_2_code 42 = .ok (.aload_n 0, 1) := by decide +kernel
theorem dM0_43 : decode prog_174_method_2_code 43 = .ok (.aload_n 1, 1) := by decide +kernel
theorem dM0_44 : decode prog_174_method_2_code 44 = .ok (.aload_n 2, 1) := by decide +kernel
theorem dM0_45 : decode prog_174_method_2_code 45 = .ok (.aconst_null, 1) := by decide +kernel
theorem dM0_46 : decode prog_174_method_2_code 46 = .ok (.iconst 0, 1) := by decide +kernel
theorem dM0_47 : decode prog_174_method_2_code 47 = .ok (.invokespecial 41, 3) := by decide +kernel
theorem dM0_50 : decode prog_174_method_2_code 50 = .ok (.areturn, 1) := by decide +kernel
theorem pn_M0 : plainName oEQ = true := by first | (simp [plainName, overriddenIn]; done) | decide +kernel
theorem pdM0_0 : parseMethodDescriptor "(Ljava/lang/String;Ljava/lang/String;Lcom/example/thames/thames/model/ExpandedQName;Lcom/example/thames/thames/model/ExpandedQName;Z)V" = some ⟨[(.object "java/lang/String"), (.object "java/lang/String"), (.object oQN), (.object oQN), .boolean], none⟩ := by decide +kernel
theorem ef_M0 (m : MethodId)  : entryFrame m #[.null, .null] 3 = mkF m 0 #[.val .null, .val .null, .unset] [] := by first | (simp [entryFrame, mkF, argsToLocals, Value.category]; done) | rfl
def QM0 (Z : State) (z : Int32) (fm : Value) (wS : Addr) (wN : Addr) (cS : Cell) (cN : Cell) (h0 : Heap) (n0 : Nat) (v : Option Value) (h : Heap) (L : List Loc) : Prop := ∃ q : Addr, v = some (.ref q) ∧ Fr n0 L ∧ Ext h0 h
set_option maxRecDepth 65536 in
set_option maxHeartbeats 40000000 in
theorem rmM0 (l : Launch) (Z : State) (a0 : Array Value) (hw : ∀ d ∈ tables_1, d.before a0 Z = true) (ws : List Jvm.Cond) (z : Int32) (fm : Value) (wS : Addr) (wN : Addr) (cS : Cell) (cN : Cell) (h0 : Heap) (n0 : Nat) (Z0 : n0 ≤ h0.size) (V : own_env Z h0 z fm wS wN cS cN) :
    MetFree l (⟨oEQ, "named", "(Ljava/lang/String;Ljava/lang/String;)Lcom/example/thames/thames/model/ElementQuery;"⟩ : MethodName) (head1 (Jvm.Cond.code (⟨oEQ, "named", "(Ljava/lang/String;Ljava/lang/String;)Lcom/example/thames/thames/model/ElementQuery;"⟩ : MethodName) prog_174_method_2_code 3 (some (.object oEQ)) :: ws) (oR 8 14 277 111)) (fun a U => a = #[.null, .null] ∧ Z.Warmed39 U.vm ∧ U.heap = h0 ∧ CHv Z own_EL U.vm h0) (fun _ _ _ _ _ => True) (fun _ U o U' => ∃ v L, o = .returned v ∧ QM0 Z z fm wS wN cS cN h0 n0 v U'.heap L ∧ CHr Z own_EL U.vm U.heap U'.vm U'.heap ∧ ReturnedEndW U o U' L (oR 8 14 277 111).cells (oR 8 14 277 111).slots) := by
  refine MetFree.of_bodySF (plainFor_of_name pn_M0) hisR ?_
  intro p e s m args below meth c s₁ Bd hml0 hP hK
  obtain ⟨rfl, hZ, hh, CH⟩ := hP
  have hx := Bd.exec
  have hby := Bd.bytes
  have hml : c.maxLocals = 3 := hml0
  have hown : (s.setVm s.vm).vm.findClass oEQ = some m.cls := findClass_of_methodNamed Bd.named
  have hnm := (name_of_methodNamed Bd.named Bd.method).1
  have X0 : Stand p l e (oR 8 14 277 111) (s.setVm s.vm) m #[.null, .null] below meth c s₁ [] 0 0 := Stand.of_body Bd
  have e0 : s₁.heap = h0 := by rw [← hh, Bd.state]; rfl
  have N0 := Fr.nil n0
  have hZ : Z.Warmed39 (s.setVm s.vm).vm := hZ
  have hS : s.Since s.vm h0.size := (State.WarmedH.refl s).since _
  have hk : h0.size ≤ h0.size := Nat.le_refl _
  have CR0 : CHr Z own_EL s.vm h0 s.vm h0 := CHr.refl CH
  show Goes p e below (fun o U' => ∃ v L, o = .returned v ∧ QM0 Z z fm wS wN cS cN h0 n0 v U'.heap L ∧ CHr Z own_EL s.vm s.heap U'.vm U'.heap ∧ ReturnedEndW s o U' L (oR 8 14 277 111).cells (oR 8 14 277 111).slots) _
  refine Goes.go (fun t k => castTop (ef_M0 m ) k) ?_
  show Goes p e below _ (s₁.setTop (mkF m 0 #[.val .null, .val .null, .unset] []))
  refine Goes.go (fun t => XS.aloadN X0.here hx rfl (hb hby dM0_0) rfl rfl ) ?_
  show Goes p e below _ (s₁.setTop (mkF m 1 #[.val .null, .val .null, .unset] [.null]))
  refine Goes.go (fun t => XS.ifnullYes X0.here hx rfl (pc0 := 1) (pc' := 8) rfl (hb hby dM0_1) rfl (by decide) (by decide)) ?_
  show Goes p e below _ (s₁.setTop (mkF m 8 #[.val .null, .val .null, .unset] []))
  refine Goes.go (fun t => XS.aloadN X0.here hx rfl (hb hby dM0_8) rfl rfl ) ?_
  show Goes p e below _ (s₁.setTop (mkF m 9 #[.val .null, .val .null, .unset] [.null]))
  refine Goes.go (fun t => XS.ifnullYes X0.here hx rfl (pc0 := 9) (pc' := 16) rfl (hb hby dM0_9) rfl (by decide) (by decide)) ?_
  show Goes p e below _ (s₁.setTop (mkF m 16 #[.val .null, .val .null, .unset] []))
  refine Goes.go (fun t => XS.aconstNull X0.here hx rfl (hb hby dM0_16)) ?_
  refine Goes.go (fun t => XS.astoreN X0.here hx rfl (hb hby dM0_17) rfl rfl (l' := #[.val .null, .val .null, .val .null]) rfl) ?_
  refine Goes.go (fun t => XS.aloadN X0.here hx rfl (hb hby dM0_18) rfl rfl ) ?_
  show Goes p e below _ (s₁.setTop (mkF m 19 #[.val .null, .val .null, .val .null] [.null]))
  refine Goes.go (fun t => XS.ifnullYes X0.here hx rfl (pc0 := 19) (pc' := 38) rfl (hb hby dM0_19) rfl (by decide) (by decide)) ?_
  show Goes p e below _ (s₁.setTop (mkF m 38 #[.val .null, .val .null, .val .null] []))
  obtain ⟨T1, h1, X1, e1, E1, A1, D1, -, st1⟩ := newO X0 hx hZ hown (own_h hw 208 rfl) (own_h hw 209 rfl) (own_h hw 97 rfl) e0 (g := (mkF m 38 #[.val .null, .val .null, .val .null] [])) rfl (hb hby dM0_38) (by decide) (by decide)
  obtain ⟨r, gq_r⟩ : ∃ z, z = h0.size := ⟨_, rfl⟩
  rw [← gq_r] at A1 D1 st1
  have g_r : n0 ≤ r := Nat.le_trans Z0 (Nat.le_of_eq gq_r.symm)
  have gb_r : h0.size ≤ r := Nat.le_trans (⟨Nat.le_refl _, fun _ _ q => q⟩ : Ext h0 h0).1 (Nat.le_of_eq gq_r.symm)
  have sz_r : h0.size ≤ r := Nat.le_trans (Nat.le_refl _) (Nat.le_of_eq gq_r.symm)
  have Kz1 : Keep h0 h1 [] := (Keep.refl h0 []).ext E1
  have CQ1 := CHr.ext E1 CH
  have CH1 := CQ1.1
  have CR1 := CR0.trans CQ1
  have hk := Nat.le_trans hk E1.1
  have Z1 : n0 ≤ h1.size := Nat.le_trans Z0 E1.1
  have B1 : Ext h0 h1 := own_ext_trans (⟨Nat.le_refl _, fun _ _ q => q⟩ : Ext h0 h0) E1
  have F_namespaceUri_r_1 : Fld Z h1 r oEQ "namespaceUri" "Ljava/lang/String;" .null := D1 (Or.inr (own_h hw 215 rfl)) (ty := (.object "java/lang/String")) (by decide)
  have F_localName_r_1 : Fld Z h1 r oEQ "localName" "Ljava/lang/String;" .null := D1 (Or.inr (own_h hw 217 rfl)) (ty := (.object "java/lang/String")) (by decide)
  have F_name_r_1 : Fld Z h1 r oEQ "name" "Lcom/example/thames/thames/model/ExpandedQName;" .null := D1 (Or.inr (own_h hw 219 rfl)) (ty := (.object oQN)) (by decide)
  have F_attributeName_r_1 : Fld Z h1 r oEQ "attributeName" "Lcom/example/thames/thames/model/ExpandedQName;" .null := D1 (Or.inr (own_h hw 221 rfl)) (ty := (.object oQN)) (by decide)
  have F_firstOnly_r_1 : Fld Z h1 r oEQ "firstOnly" "Z" (.int (0 : Int32)) := D1 (Or.inr (own_h hw 223 rfl)) (ty := .boolean) (by decide)
  refine Goes.go st1 ?_
  show Goes p e below _ (T1.setTop (mkF m 41 #[.val .null, .val .null, .val .null] [(.ref r)]))
  refine Goes.go (fun t => XS.dup X1.here hx rfl (hb hby dM0_41) rfl rfl) ?_
  refine Goes.go (fun t => XS.aloadN X1.here hx rfl (hb hby dM0_42) rfl rfl ) ?_
  refine Goes.go (fun t => XS.aloadN X1.here hx rfl (hb hby dM0_43) rfl rfl ) ?_
  refine Goes.go (fun t => XS.aloadN X1.here hx rfl (hb hby dM0_44) rfl rfl ) ?_
  show Goes p e below _ (T1.setTop (mkF m 45 #[.val .null, .val .null, .val .null] [.null, .null, .null, (.ref r), (.ref r)]))
  refine Goes.go (fun t => XS.aconstNull X1.here hx rfl (hb hby dM0_45)) ?_
  refine Goes.go (fun t => XS.iconst X1.here hx rfl (hb hby dM0_46)) ?_
  show Goes p e below _ (T1.setTop (mkF m 47 #[.val .null, .val .null, .val .null] [(.int (0 : Int32)), .null, .null, .null, .null, (.ref r), (.ref r)]))
  obtain ⟨_, _, ⟨T2, L2, k2, n2⟩, -, X2, ⟨Lc2, hQ2, l2, y2, z2⟩, st2⟩ := X1.specialBack hx (y := (⟨oEQ, "<init>", "(Ljava/lang/String;Ljava/lang/String;Lcom/example/thames/thames/model/ExpandedQName;Lcom/example/thames/thames/model/ExpandedQName;Z)V"⟩ : MethodName)) rfl hown (mvT hZ (own_h hw 210 rfl)) (mvT hZ (own_h hw 211 rfl)) (mvT hZ (own_h hw 212 rfl)) (by decide) (backOf (W := 1) (rmEI l Z a0 hw [] r .null .null .null h1 n0 Z1 rfl rfl rfl A1 g_r F_namespaceUri_r_1 F_localName_r_1 F_name_r_1 F_attributeName_r_1 F_firstOnly_r_1) hZ (own_h hw 212 rfl) (own_h hw 97 rfl) (by decide) (by decide)) (g := (mkF m 47 #[.val .null, .val .null, .val .null] [(.int (0 : Int32)), .null, .null, .null, .null, (.ref r), (.ref r)])) rfl (by rw [hml]; rfl) (Steps.refl _) (a := r) (argsL := [.null, .null, .null, .null, (.int (0 : Int32))]) (rest := [(.ref r)]) (lenOf pdM0_0 rfl) rfl (by show 2 * 0 + _ ≤ _; exact Nat.le_of_eq rfl) (hb hby dM0_47) (fun _ _ => ⟨rfl, e1, (by decide : 1 + 0 ≤ _), (by decide : 6 + 0 ≤ _)⟩)
  dsimp only [Pt.U, Pt.locs, Pt.cells, Pt.slots] at X2 l2 y2 z2 st2 hQ2
  subst l2 y2 z2
  obtain ⟨rfl, N2q, K2⟩ := hQ2
  have N2 := Fr.app N0 N2q
  refine Goes.via st2 ?_
  have CQ2 := CHr.keep K2 (sfS (Safe.exa hZ.alike A1 (by decide) (by decide)) sf0) CH1
  have CH2 := CQ2.1
  have CR2 := CR1.trans CQ2
  have hk := Nat.le_trans hk K2.1
  have Z2 : n0 ≤ T2.heap.size := Nat.le_trans Z1 K2.1
  have E_r_2 : Exa Z T2.heap r oEQ := A1.keep K2
  have Kz2 : Keep h0 T2.heap [] := Kz1.trans K2 (allS (Or.inr sz_r) all0)
  show Goes p e below _ (T2.setTop (mkF m 50 #[.val .null, .val .null, .val .null] [(.ref r)]))
  exact Goes.outW X2 hS hk (fun h => by rw [Bd.returns] at h; cases h) Bd.notSynchronized (fun fs hr => retOut X2 hx Bd.returns rfl (Or.inr (Or.inr (Or.inr (Or.inr ⟨rfl, rfl, rfl⟩)))) (hb hby dM0_50) hr) ⟨r, rfl, N2, own_ext_of Kz2⟩ (by rw [hh]; exact CR2.trans (CHv.at X2 hZ (own_ew hw) CH2)) (by decide) (by decide)
theorem dM1_0 : decode prog_174_method_2_code 0 = .ok (.aload_n 1, 1) := by decide +kernel
theorem dM1_1 : decode prog_174_method_2_code 1 = .ok (.ifnull 7, 3) := by decide +kernel
theorem dM1_4 : decode prog_174_method_2_code 4 = .ok (.aload_n 1, 1) := by decide +kernel
theorem dM1_5 : decode prog_174_method_2_code 5 = .ok (.invokestatic 27, 3) := by decide +kernel
theorem dM1_8 : decode prog_174_method_2_code 8 = .ok (.aload_n 0, 1) := by decide +kernel
theorem dM1_9 : decode prog_174_method_2_code 9 = .ok (.ifnull 7, 3) := by decide +kernel
theorem dM1_16 : decode prog_174_method_2_code 16 = .ok (.aconst_null, 1) := by decide +kernel
theorem dM1_17 : decode prog_174_method_2_code 17 = .ok (.astore_n 2, 1) := by decide +kernel
theorem dM1_18 : decode prog_174_method_2_code 18 = .ok (.aload_n 0, 1) := by decide +kernel
theorem dM1_19 : decode prog_174_method_2_code 19 = .ok (.ifnull 19, 3) := by decide +kernel
theorem dM1_38 : decode prog_174_method_2_code 38 = .ok (.new 8, 3) := by decide +kernel
theorem dM1_41 : decode prog_174_method_2_code 41 = .ok (.dup, 1) := by decide +kernel
theorem dM1_42 : decode prog_174_method_2_code 42 = .ok (.aload_n 0, 1) := by decide +kernel
theorem dM1_43 : decode prog_174_method_2_code 43 = .ok (.aload_n 1, 1) := by decide +kernel
theorem dM1_44 : decode prog_174_method_2_code 44 = .ok (.aload_n 2, 1) := by decide +kernel
theorem dM1_45 : decode prog_174_method_2_code 45 = .ok (.aconst_null, 1) := by decide +kernel
theorem dM1_46 : decode prog_174_method_2_code 46 = .ok (.iconst 0, 1) := by decide +kernel
theorem dM1_47 : decode prog_174_method_2_code 47 = .ok (.invokespecial 41, 3) := by decide +kernel
theorem dM1_50 : decode prog_174_method_2_code 50 = .ok (.areturn, 1) := by decide +kernel
theorem pn_M1 : plainName oEQ = true := by first | (simp [plainName, overriddenIn]; done) | decide +kernel
theorem pdM1_0 : parseMethodDescriptor "(Ljava/lang/String;)V" = some ⟨[(.object "java/lang/String")], none⟩ := by decide +kernel
theorem pdM1_1 : parseMethodDescriptor "(Ljava/lang/String;Ljava/lang/String;Lcom/example/thames/thames/model/ExpandedQName;Lcom/example/thames/thames/model/ExpandedQName;Z)V" = some ⟨[(.object "java/lang/String"), (.object "java/lang/String"), (.object oQN), (.object oQN), .boolean], none⟩ := by decide +kernel
theorem ef_M1 (m : MethodId) (o1 : Addr) : entryFrame m #[.null, (.ref o1)] 3 = mkF m 0 #[.val .null, .val (.ref o1), .unset] [] := by first | (simp [entryFrame, mkF, argsToLocals, Value.category]; done) | rfl
def QM1 (Z : State) (o1 : Addr) (z : Int32) (fm : Value) (wS : Addr) (wN : Addr) (cS : Cell) (cN : Cell) (csl : List Int32) (h0 : Heap) (n0 : Nat) (v : Option Value) (h : Heap) (L : List Loc) : Prop := ∃ q : Addr, v = some (.ref q) ∧ Fr n0 L ∧ Ext h0 h
set_option maxRecDepth 65536 in
set_option maxHeartbeats 40000000 in
theorem rmM1 (l : Launch) (Z : State) (a0 : Array Value) (hw : ∀ d ∈ tables_1, d.before a0 Z = true) (ws : List Jvm.Cond) (o1 : Addr) (z : Int32) (fm : Value) (wS : Addr) (wN : Addr) (cS : Cell) (cN : Cell) (csl : List Int32) (h0 : Heap) (n0 : Nat) (Z0 : n0 ≤ h0.size) (V : own_env Z h0 z fm wS wN cS cN) (S3 : own_s Z h0 o1 csl) (hn3 : own_name csl) :
    MetFree l (⟨oEQ, "named", "(Ljava/lang/String;Ljava/lang/String;)Lcom/example/thames/thames/model/ElementQuery;"⟩ : MethodName) (head1 (Jvm.Cond.code (⟨oEQ, "named", "(Ljava/lang/String;Ljava/lang/String;)Lcom/example/thames/thames/model/ElementQuery;"⟩ : MethodName) prog_174_method_2_code 3 (some (.object oEQ)) :: ws) (oR 8 14 277 111)) (fun a U => a = #[.null, (.ref o1)] ∧ Z.Warmed39 U.vm ∧ U.heap = h0 ∧ CHv Z own_EL U.vm h0) (fun _ _ _ _ _ => True) (fun _ U o U' => ∃ v L, o = .returned v ∧ QM1 Z o1 z fm wS wN cS cN csl h0 n0 v U'.heap L ∧ CHr Z own_EL U.vm U.heap U'.vm U'.heap ∧ ReturnedEndW U o U' L (oR 8 14 277 111).cells (oR 8 14 277 111).slots) := by
  refine MetFree.of_bodySF (plainFor_of_name pn_M1) hisR ?_
  intro p e s m args below meth c s₁ Bd hml0 hP hK
  obtain ⟨rfl, hZ, hh, CH⟩ := hP
  have hx := Bd.exec
  have hby := Bd.bytes
  have hml : c.maxLocals = 3 := hml0
  have hown : (s.setVm s.vm).vm.findClass oEQ = some m.cls := findClass_of_methodNamed Bd.named
  have hnm := (name_of_methodNamed Bd.named Bd.method).1
  have X0 : Stand p l e (oR 8 14 277 111) (s.setVm s.vm) m #[.null, (.ref o1)] below meth c s₁ [] 0 0 := Stand.of_body Bd
  have e0 : s₁.heap = h0 := by rw [← hh, Bd.state]; rfl
  have N0 := Fr.nil n0
  have hZ : Z.Warmed39 (s.setVm s.vm).vm := hZ
  have hS : s.Since s.vm h0.size := (State.WarmedH.refl s).since _
  have hk : h0.size ≤ h0.size := Nat.le_refl _
  have CR0 : CHr Z own_EL s.vm h0 s.vm h0 := CHr.refl CH
  show Goes p e below (fun o U' => ∃ v L, o = .returned v ∧ QM1 Z o1 z fm wS wN cS cN csl h0 n0 v U'.heap L ∧ CHr Z own_EL s.vm s.heap U'.vm U'.heap ∧ ReturnedEndW s o U' L (oR 8 14 277 111).cells (oR 8 14 277 111).slots) _
  refine Goes.go (fun t k => castTop (ef_M1 m o1) k) ?_
  show Goes p e below _ (s₁.setTop (mkF m 0 #[.val .null, .val (.ref o1), .unset] []))
  refine Goes.go (fun t => XS.aloadN X0.here hx rfl (hb hby dM1_0) rfl rfl ) ?_
  show Goes p e below _ (s₁.setTop (mkF m 1 #[.val .null, .val (.ref o1), .unset] [(.ref o1)]))
  refine Goes.go (fun t => XS.ifnullNo X0.here hx rfl (hb hby dM1_1) rfl) ?_
  show Goes p e below _ (s₁.setTop (mkF m 4 #[.val .null, .val (.ref o1), .unset] []))
  refine Goes.go (fun t => XS.aloadN X0.here hx rfl (hb hby dM1_4) rfl rfl ) ?_
  show Goes p e below _ (s₁.setTop (mkF m 5 #[.val .null, .val (.ref o1), .unset] [(.ref o1)]))
  obtain ⟨_, _, ⟨T1, L1, k1, n1⟩, -, X1, ⟨Lc1, hQ1, l1, y1, z1⟩, st1⟩ := Jvm.LawKit.callS X0 hx (y := (⟨oQN, "requireLocalName", "(Ljava/lang/String;)V"⟩ : MethodName)) hown (mvT hZ (own_h hw 99 rfl)) (mvT hZ (own_h hw 100 rfl)) (mvT hZ (own_h hw 101 rfl)) (mvT hZ (own_h hw 102 rfl)) (by decide) (backOf (W := 0) (rmRL l Z a0 hw [] o1 z fm wS wN cS cN csl h0 n0 Z0 (V.ext (⟨Nat.le_refl _, fun _ _ q => q⟩ : Ext h0 h0)) (S3.ext (⟨Nat.le_refl _, fun _ _ q => q⟩ : Ext h0 h0)) hn3) hZ (own_h hw 102 rfl) (own_h hw 101 rfl) (by decide) (by decide)) (g := (mkF m 5 #[.val .null, .val (.ref o1), .unset] [(.ref o1)])) rfl (by rw [hml]; rfl) (argsL := [(.ref o1)]) (rest := []) (lenOf pdM1_0 rfl) rfl (by show 2 * 0 + _ ≤ _; exact Nat.le_of_eq rfl) (hb hby dM1_5) (fun _ _ => ⟨rfl, e0, (by decide : 0 + 0 ≤ _), (by decide : 0 + 0 ≤ _)⟩)
  dsimp only [Pt.U, Pt.locs, Pt.cells, Pt.slots] at X1 l1 y1 z1 st1 hQ1
  subst l1 y1 z1
  obtain ⟨rfl, N1q, e1q⟩ := hQ1
  have N1 := Fr.app N0 N1q
  refine Goes.go st1 ?_
  show Goes p e below _ (T1.setTop (mkF m 8 #[.val .null, .val (.ref o1), .unset] []))
  refine Goes.go (fun t => XS.aloadN X1.here hx rfl (hb hby dM1_8) rfl rfl ) ?_
  show Goes p e below _ (T1.setTop (mkF m 9 #[.val .null, .val (.ref o1), .unset] [.null]))
  refine Goes.go (fun t => XS.ifnullYes X1.here hx rfl (pc0 := 9) (pc' := 16) rfl (hb hby dM1_9) rfl (by decide) (by decide)) ?_
  show Goes p e below _ (T1.setTop (mkF m 16 #[.val .null, .val (.ref o1), .unset] []))
  refine Goes.go (fun t => XS.aconstNull X1.here hx rfl (hb hby dM1_16)) ?_
  refine Goes.go (fun t => XS.astoreN X1.here hx rfl (hb hby dM1_17) rfl rfl (l' := #[.val .null, .val (.ref o1), .val .null]) rfl) ?_
  refine Goes.go (fun t => XS.aloadN X1.here hx rfl (hb hby dM1_18) rfl rfl ) ?_
  show Goes p e below _ (T1.setTop (mkF m 19 #[.val .null, .val (.ref o1), .val .null] [.null]))
  refine Goes.go (fun t => XS.ifnullYes X1.here hx rfl (pc0 := 19) (pc' := 38) rfl (hb hby dM1_19) rfl (by decide) (by decide)) ?_
  show Goes p e below _ (T1.setTop (mkF m 38 #[.val .null, .val (.ref o1), .val .null] []))
  obtain ⟨T2, h2, X2, e2, E2, A2, D2, -, st2⟩ := newO X1 hx hZ hown (own_h hw 208 rfl) (own_h hw 209 rfl) (own_h hw 97 rfl) e1q (g := (mkF m 38 #[.val .null, .val (.ref o1), .val .null] [])) rfl (hb hby dM1_38) (by decide) (by decide)
  obtain ⟨r, gq_r⟩ : ∃ z, z = h0.size := ⟨_, rfl⟩
  rw [← gq_r] at A2 D2 st2
  have g_r : n0 ≤ r := Nat.le_trans Z0 (Nat.le_of_eq gq_r.symm)
  have gb_r : h0.size ≤ r := Nat.le_trans (⟨Nat.le_refl _, fun _ _ q => q⟩ : Ext h0 h0).1 (Nat.le_of_eq gq_r.symm)
  have sz_r : h0.size ≤ r := Nat.le_trans (Nat.le_refl _) (Nat.le_of_eq gq_r.symm)
  have Kz2 : Keep h0 h2 [] := (Keep.refl h0 []).ext E2
  have CQ2 := CHr.ext E2 CH
  have CH2 := CQ2.1
  have CR2 := CR0.trans CQ2
  have hk := Nat.le_trans hk E2.1
  have Z2 : n0 ≤ h2.size := Nat.le_trans Z0 E2.1
  have B2 : Ext h0 h2 := own_ext_trans (⟨Nat.le_refl _, fun _ _ q => q⟩ : Ext h0 h0) E2
  have F_namespaceUri_r_2 : Fld Z h2 r oEQ "namespaceUri" "Ljava/lang/String;" .null := D2 (Or.inr (own_h hw 215 rfl)) (ty := (.object "java/lang/String")) (by decide)
  have F_localName_r_2 : Fld Z h2 r oEQ "localName" "Ljava/lang/String;" .null := D2 (Or.inr (own_h hw 217 rfl)) (ty := (.object "java/lang/String")) (by decide)
  have F_name_r_2 : Fld Z h2 r oEQ "name" "Lcom/example/thames/thames/model/ExpandedQName;" .null := D2 (Or.inr (own_h hw 219 rfl)) (ty := (.object oQN)) (by decide)
  have F_attributeName_r_2 : Fld Z h2 r oEQ "attributeName" "Lcom/example/thames/thames/model/ExpandedQName;" .null := D2 (Or.inr (own_h hw 221 rfl)) (ty := (.object oQN)) (by decide)
  have F_firstOnly_r_2 : Fld Z h2 r oEQ "firstOnly" "Z" (.int (0 : Int32)) := D2 (Or.inr (own_h hw 223 rfl)) (ty := .boolean) (by decide)
  refine Goes.go st2 ?_
  show Goes p e below _ (T2.setTop (mkF m 41 #[.val .null, .val (.ref o1), .val .null] [(.ref r)]))
  refine Goes.go (fun t => XS.dup X2.here hx rfl (hb hby dM1_41) rfl rfl) ?_
  refine Goes.go (fun t => XS.aloadN X2.here hx rfl (hb hby dM1_42) rfl rfl ) ?_
  refine Goes.go (fun t => XS.aloadN X2.here hx rfl (hb hby dM1_43) rfl rfl ) ?_
  refine Goes.go (fun t => XS.aloadN X2.here hx rfl (hb hby dM1_44) rfl rfl ) ?_
  show Goes p e below _ (T2.setTop (mkF m 45 #[.val .null, .val (.ref o1), .val .null] [.null, (.ref o1), .null, (.ref r), (.ref r)]))
  refine Goes.go (fun t => XS.aconstNull X2.here hx rfl (hb hby dM1_45)) ?_
  refine Goes.go (fun t => XS.iconst X2.here hx rfl (hb hby dM1_46)) ?_
  show Goes p e below _ (T2.setTop (mkF m 47 #[.val .null, .val (.ref o1), .val .null] [(.int (0 : Int32)), .null, .null, (.ref o1), .null, (.ref r), (.ref r)]))
  obtain ⟨_, _, ⟨T3, L3, k3, n3⟩, -, X3, ⟨Lc3, hQ3, l3, y3, z3⟩, st3⟩ := X2.specialBack hx (y := (⟨oEQ, "<init>", "(Ljava/lang/String;Ljava/lang/String;Lcom/example/thames/thames/model/ExpandedQName;Lcom/example/thames/thames/model/ExpandedQName;Z)V"⟩ : MethodName)) rfl hown (mvT hZ (own_h hw 210 rfl)) (mvT hZ (own_h hw 211 rfl)) (mvT hZ (own_h hw 212 rfl)) (by decide) (backOf (W := 1) (rmEI l Z a0 hw [] r .null (.ref o1) .null h2 n0 Z2 rfl rfl rfl A2 g_r F_namespaceUri_r_2 F_localName_r_2 F_name_r_2 F_attributeName_r_2 F_firstOnly_r_2) hZ (own_h hw 212 rfl) (own_h hw 97 rfl) (by decide) (by decide)) (g := (mkF m 47 #[.val .null, .val (.ref o1), .val .null] [(.int (0 : Int32)), .null, .null, (.ref o1), .null, (.ref r), (.ref r)])) rfl (by rw [hml]; rfl) (Steps.refl _) (a := r) (argsL := [.null, (.ref o1), .null, .null, (.int (0 : Int32))]) (rest := [(.ref r)]) (lenOf pdM1_1 rfl) rfl (by show 2 * 0 + _ ≤ _; exact Nat.le_of_eq rfl) (hb hby dM1_47) (fun _ _ => ⟨rfl, e2, (by decide : 1 + 0 ≤ _), (by decide : 6 + 0 ≤ _)⟩)
  dsimp only [Pt.U, Pt.locs, Pt.cells, Pt.slots] at X3 l3 y3 z3 st3 hQ3
  subst l3 y3 z3
  obtain ⟨rfl, N3q, K3⟩ := hQ3
  have N3 := Fr.app N1 N3q
  refine Goes.via st3 ?_
  have CQ3 := CHr.keep K3 (sfS (Safe.exa hZ.alike A2 (by decide) (by decide)) sf0) CH2
  have CH3 := CQ3.1
  have CR3 := CR2.trans CQ3
  have hk := Nat.le_trans hk K3.1
  have Z3 : n0 ≤ T3.heap.size := Nat.le_trans Z2 K3.1
  have E_r_3 : Exa Z T3.heap r oEQ := A2.keep K3
  have Kz3 : Keep h0 T3.heap [] := Kz2.trans K3 (allS (Or.inr sz_r) all0)
  show Goes p e below _ (T3.setTop (mkF m 50 #[.val .null, .val (.ref o1), .val .null] [(.ref r)]))
  exact Goes.outW X3 hS hk (fun h => by rw [Bd.returns] at h; cases h) Bd.notSynchronized (fun fs hr => retOut X3 hx Bd.returns rfl (Or.inr (Or.inr (Or.inr (Or.inr ⟨rfl, rfl, rfl⟩)))) (hb hby dM1_50) hr) ⟨r, rfl, N3, own_ext_of Kz3⟩ (by rw [hh]; exact CR3.trans (CHv.at X3 hZ (own_ew hw) CH3)) (by decide) (by decide)
theorem dM2_0 : decode prog_174_method_2_code 0 = .ok (.aload_n 1, 1) := by decide +kernel
theorem dM2_1 : decode prog_174_method_2_code 1 = .ok (.ifnull 7, 3) := by decide +kernel
theorem dM2_8 : decode prog_174_method_2_code 8 = .ok (.aload_n 0, 1) := by decide +kernel
theorem dM2_9 : decode prog_174_method_2_code 9 = .ok (.ifnull 7, 3) := by decide +kernel
theorem dM2_12 : decode prog_174_method_2_code 12 = .ok (.aload_n 0, 1) := by decide +kernel
theorem dM2_13 : decode prog_174_method_2_code 13 = .ok (.invokestatic 33, 3) := by decide +kernel
theorem dM2_16 : decode prog_174_method_2_code 16 = .ok (.aconst_null, 1) := by decide +kernel
theorem dM2_17 : decode prog_174_method_2_code 17 = .ok (.astore_n 2, 1) := by decide +kernel
theorem dM2_18 : decode prog_174_method_2_code 18 = .ok (.aload_n 0, 1) := by decide +kernel
theorem dM2_19 : decode prog_174_method_2_code 19 = .ok (.ifnull 19, 3) := by decide +kernel
theorem dM2_22 : decode prog_174_method_2_code 22 = .ok (.aload_n 1, 1) := by decide +kernel
theorem dM2_23 : decode prog_174_method_2_code 23 = .ok (.ifnull 15, 3) := by decide +kernel
theorem dM2_38 : decode prog_174_method_2_code 38 = .ok (.new 8, 3) := by decide +kernel
theorem dM2_41 : decode prog_174_method_2_code 41 = .ok (.dup, 1) := by decide +kernel
theorem dM2_42 : decode prog_174_method_2_code 42 = .ok (.aload_n 0, 1) := by decide +kernel
theorem dM2_43 : decode prog_174_method_2_code 43 = .ok (.aload_n 1, 1) := by decide +kernel
theorem dM2_44 : decode prog_174_method_2_code 44 = .ok (.aload_n 2, 1) := by decide +kernel
theorem dM2_45 : decode prog_174_method_2_code 45 = .ok (.aconst_null, 1) := by decide +kernel
theorem dM2_46 : decode prog_174_method_2_code 46 = .ok (.iconst 0, 1) := by decide +kernel
theorem dM2_47 : decode prog_174_method_2_code 47 = .ok (.invokespecial 41, 3) := by decide +kernel
theorem dM2_50 : decode prog_174_method_2_code 50 = .ok (.areturn, 1) := by decide +kernel
theorem pn_M2 : plainName oEQ = true := by first | (simp [plainName, overriddenIn]; done) | decide +kernel
theorem pdM2_0 : parseMethodDescriptor "(Ljava/lang/String;)V" = some ⟨[(.object "java/lang/String")], none⟩ := by decide +kernel
theorem pdM2_1 : parseMethodDescriptor "(Ljava/lang/String;Ljava/lang/String;Lcom/example/thames/thames/model/ExpandedQName;Lcom/example/thames/thames/model/ExpandedQName;Z)V" = some ⟨[(.object "java/lang/String"), (.object "java/lang/String"), (.object oQN), (.object oQN), .boolean], none⟩ := by decide +kernel
theorem ef_M2 (m : MethodId) (o0 : Addr) : entryFrame m #[(.ref o0), .null] 3 = mkF m 0 #[.val (.ref o0), .val .null, .unset] [] := by first | (simp [entryFrame, mkF, argsToLocals, Value.category]; done) | rfl
def QM2 (Z : State) (o0 : Addr) (z : Int32) (fm : Value) (wS : Addr) (wN : Addr) (cS : Cell) (cN : Cell) (csn : List Int32) (h0 : Heap) (n0 : Nat) (v : Option Value) (h : Heap) (L : List Loc) : Prop := ∃ q : Addr, v = some (.ref q) ∧ Fr n0 L ∧ Ext h0 h
set_option maxRecDepth 65536 in
set_option maxHeartbeats 40000000 in
theorem rmM2 (l : Launch) (Z : State) (a0 : Array Value) (hw : ∀ d ∈ tables_1, d.before a0 Z = true) (ws : List Jvm.Cond) (o0 : Addr) (z : Int32) (fm : Value) (wS : Addr) (wN : Addr) (cS : Cell) (cN : Cell) (csn : List Int32) (h0 : Heap) (n0 : Nat) (Z0 : n0 ≤ h0.size) (V : own_env Z h0 z fm wS wN cS cN) (S1 : own_s Z h0 o0 csn) (hn1 : own_uri csn) :
    MetFree l (⟨oEQ, "named", "(Ljava/lang/String;Ljava/lang/String;)Lcom/example/thames/thames/model/ElementQuery;"⟩ : MethodName) (head1 (Jvm.Cond.code (⟨oEQ, "named", "(Ljava/lang/String;Ljava/lang/String;)Lcom/example/thames/thames/model/ElementQuery;"⟩ : MethodName) prog_174_method_2_code 3 (some (.object oEQ)) :: ws) (oR 8 14 277 111)) (fun a U => a = #[(.ref o0), .null] ∧ Z.Warmed39 U.vm ∧ U.heap = h0 ∧ CHv Z own_EL U.vm h0) (fun _ _ _ _ _ => True) (fun _ U o U' => ∃ v L, o = .returned v ∧ QM2 Z o0 z fm wS wN cS cN csn h0 n0 v U'.heap L ∧ CHr Z own_EL U.vm U.heap U'.vm U'.heap ∧ ReturnedEndW U o U' L (oR 8 14 277 111).cells (oR 8 14 277 111).slots) := by
  refine MetFree.of_bodySF (plainFor_of_name pn_M2) hisR ?_
  intro p e s m args below meth c s₁ Bd hml0 hP hK
  obtain ⟨rfl, hZ, hh, CH⟩ := hP
  have hx := Bd.exec
  have hby := Bd.bytes
  have hml : c.maxLocals = 3 := hml0
  have hown : (s.setVm s.vm).vm.findClass oEQ = some m.cls := findClass_of_methodNamed Bd.named
  have hnm := (name_of_methodNamed Bd.named Bd.method).1
  have X0 : Stand p l e (oR 8 14 277 111) (s.setVm s.vm) m #[(.ref o0), .null] below meth c s₁ [] 0 0 := Stand.of_body Bd
  have e0 : s₁.heap = h0 := by rw [← hh, Bd.state]; rfl
  have N0 := Fr.nil n0
  have hZ : Z.Warmed39 (s.setVm s.vm).vm := hZ
  have hS : s.Since s.vm h0.size := (State.WarmedH.refl s).since _
  have hk : h0.size ≤ h0.size := Nat.le_refl _
  have CR0 : CHr Z own_EL s.vm h0 s.vm h0 := CHr.refl CH
  show Goes p e below (fun o U' => ∃ v L, o = .returned v ∧ QM2 Z o0 z fm wS wN cS cN csn h0 n0 v U'.heap L ∧ CHr Z own_EL s.vm s.heap U'.vm U'.heap ∧ ReturnedEndW s o U' L (oR 8 14 277 111).cells (oR 8 14 277 111).slots) _
  refine Goes.go (fun t k => castTop (ef_M2 m o0) k) ?_
  show Goes p e below _ (s₁.setTop (mkF m 0 #[.val (.ref o0), .val .null, .unset] []))
  refine Goes.go (fun t => XS.aloadN X0.here hx rfl (hb hby dM2_0) rfl rfl ) ?_
  show Goes p e below _ (s₁.setTop (mkF m 1 #[.val (.ref o0), .val .null, .unset] [.null]))
  refine Goes.go (fun t => XS.ifnullYes X0.here hx rfl (pc0 := 1) (pc' := 8) rfl (hb hby dM2_1) rfl (by decide) (by decide)) ?_
  show Goes p e below _ (s₁.setTop (mkF m 8 #[.val (.ref o0), .val .null, .unset] []))
  refine Goes.go (fun t => XS.aloadN X0.here hx rfl (hb hby dM2_8) rfl rfl ) ?_
  show Goes p e below _ (s₁.setTop (mkF m 9 #[.val (.ref o0), .val .null, .unset] [(.ref o0)]))
  refine Goes.go (fun t => XS.ifnullNo X0.here hx rfl (hb hby dM2_9) rfl) ?_
  show Goes p e below _ (s₁.setTop (mkF m 12 #[.val (.ref o0), .val .null, .unset] []))
  refine Goes.go (fun t => XS.aloadN X0.here hx rfl (hb hby dM2_12) rfl rfl ) ?_
  show Goes p e below _ (s₁.setTop (mkF m 13 #[.val (.ref o0), .val .null, .unset] [(.ref o0)]))
  obtain ⟨_, _, ⟨T1, L1, k1, n1⟩, -, X1, hS1, hg1, ⟨Lc1, hQ1, l1, y1, z1, CQ1⟩, st1⟩ := callSS X0 hx (y := (⟨oQN, "requireXmlNamespaceUri", "(Ljava/lang/String;)V"⟩ : MethodName)) hown (mvT hZ (own_h hw 168 rfl)) (mvT hZ (own_h hw 169 rfl)) (mvT hZ (own_h hw 101 rfl)) (mvT hZ (own_h hw 170 rfl)) (by decide) (backOfSH (s := s) (vm0 := s.vm) (W := 0) (rmUR l Z a0 hw [] o0 z fm wS wN cS cN csn h0 n0 Z0 (V.ext (⟨Nat.le_refl _, fun _ _ q => q⟩ : Ext h0 h0)) (S1.ext (⟨Nat.le_refl _, fun _ _ q => q⟩ : Ext h0 h0)) hn1) hZ (own_h hw 170 rfl) (own_h hw 101 rfl) (by decide) (by decide) (own_ew hw) CH) (g := (mkF m 13 #[.val (.ref o0), .val .null, .unset] [(.ref o0)])) rfl (by rw [hml]; rfl) (argsL := [(.ref o0)]) (rest := []) (lenOf pdM2_0 rfl) rfl (by show 2 * 0 + _ ≤ _; exact Nat.le_of_eq rfl) (hb hby dM2_13) (fun _ _ => ⟨rfl, e0, (by decide : 0 + 2 ≤ _), (by decide : 0 + 72 ≤ _)⟩)
  dsimp only [Pt.U, Pt.locs, Pt.cells, Pt.slots] at X1 hS1 hg1 l1 y1 z1 st1 hQ1 CQ1
  subst l1 y1 z1
  obtain ⟨rfl, N1q, E1⟩ := hQ1
  have N1 := Fr.app N0 N1q
  obtain ⟨X1, hS, hZ, hown⟩ := rebS (n1 := s₁.heap.size) hS (by rw [e0]; exact hk) X1 hS1 hg1 hZ hown
  have hk : T1.heap.size ≤ T1.heap.size := Nat.le_refl _
  have CH1 := CQ1.1
  have CR1 := CR0.trans CQ1
  refine Goes.via st1 ?_
  have Z1 : n0 ≤ T1.heap.size := Nat.le_trans Z0 E1.1
  have B1 : Ext h0 T1.heap := own_ext_trans (⟨Nat.le_refl _, fun _ _ q => q⟩ : Ext h0 h0) E1
  have Kz1 : Keep h0 T1.heap [] := (Keep.refl h0 []).ext E1
  show Goes p e below _ (T1.setTop (mkF m 16 #[.val (.ref o0), .val .null, .unset] []))
  refine Goes.go (fun t => XS.aconstNull X1.here hx rfl (hb hby dM2_16)) ?_
  refine Goes.go (fun t => XS.astoreN X1.here hx rfl (hb hby dM2_17) rfl rfl (l' := #[.val (.ref o0), .val .null, .val .null]) rfl) ?_
  refine Goes.go (fun t => XS.aloadN X1.here hx rfl (hb hby dM2_18) rfl rfl ) ?_
  show Goes p e below _ (T1.setTop (mkF m 19 #[.val (.ref o0), .val .null, .val .null] [(.ref o0)]))
  refine Goes.go (fun t => XS.ifnullNo X1.here hx rfl (hb hby dM2_19) rfl) ?_
  show Goes p e below _ (T1.setTop (mkF m 22 #[.val (.ref o0), .val .null, .val .null] []))
  refine Goes.go (fun t => XS.aloadN X1.here hx rfl (hb hby dM2_22) rfl rfl ) ?_
  show Goes p e below _ (T1.setTop (mkF m 23 #[.val (.ref o0), .val .null, .val .null] [.null]))
  refine Goes.go (fun t => XS.ifnullYes X1.here hx rfl (pc0 := 23) (pc' := 38) rfl (hb hby dM2_23) rfl (by decide) (by decide)) ?_
  show Goes p e below _ (T1.setTop (mkF m 38 #[.val (.ref o0), .val .null, .val .null] []))
  obtain ⟨T2, h2, X2, e2, E2, A2, D2, -, st2⟩ := newO X1 hx hZ hown (own_h hw 208 rfl) (own_h hw 209 rfl) (own_h hw 97 rfl) rfl (g := (mkF m 38 #[.val (.ref o0), .val .null, .val .null] [])) rfl (hb hby dM2_38) (by decide) (by decide)
  obtain ⟨r, gq_r⟩ : ∃ z, z = T1.heap.size := ⟨_, rfl⟩
  rw [← gq_r] at A2 D2 st2
  have g_r : n0 ≤ r := Nat.le_trans Z1 (Nat.le_of_eq gq_r.symm)
  have gb_r : h0.size ≤ r := Nat.le_trans B1.1 (Nat.le_of_eq gq_r.symm)
  have sz_r : h0.size ≤ r := Nat.le_trans Kz1.1 (Nat.le_of_eq gq_r.symm)
  have Kz2 : Keep h0 h2 [] := Kz1.ext E2
  have CQ2 := CHr.ext E2 CH1
  have CH2 := CQ2.1
  have CR2 := CR1.trans CQ2
  have hk := Nat.le_trans hk E2.1
  have Z2 : n0 ≤ h2.size := Nat.le_trans Z1 E2.1
  have B2 : Ext h0 h2 := own_ext_trans B1 E2
  have F_namespaceUri_r_2 : Fld Z h2 r oEQ "namespaceUri" "Ljava/lang/String;" .null := D2 (Or.inr (own_h hw 215 rfl)) (ty := (.object "java/lang/String")) (by decide)
  have F_localName_r_2 : Fld Z h2 r oEQ "localName" "Ljava/lang/String;" .null := D2 (Or.inr (own_h hw 217 rfl)) (ty := (.object "java/lang/String")) (by decide)
  have F_name_r_2 : Fld Z h2 r oEQ "name" "Lcom/example/thames/thames/model/ExpandedQName;" .null := D2 (Or.inr (own_h hw 219 rfl)) (ty := (.object oQN)) (by decide)
  have F_attributeName_r_2 : Fld Z h2 r oEQ "attributeName" "Lcom/example/thames/thames/model/ExpandedQName;" .null := D2 (Or.inr (own_h hw 221 rfl)) (ty := (.object oQN)) (by decide)
  have F_firstOnly_r_2 : Fld Z h2 r oEQ "firstOnly" "Z" (.int (0 : Int32)) := D2 (Or.inr (own_h hw 223 rfl)) (ty := .boolean) (by decide)
  refine Goes.go st2 ?_
  show Goes p e below _ (T2.setTop (mkF m 41 #[.val (.ref o0), .val .null, .val .null] [(.ref r)]))
  refine Goes.go (fun t => XS.dup X2.here hx rfl (hb hby dM2_41) rfl rfl) ?_
  refine Goes.go (fun t => XS.aloadN X2.here hx rfl (hb hby dM2_42) rfl rfl ) ?_
  refine Goes.go (fun t => XS.aloadN X2.here hx rfl (hb hby dM2_43) rfl rfl ) ?_
  refine Goes.go (fun t => XS.aloadN X2.here hx rfl (hb hby dM2_44) rfl rfl ) ?_
  show Goes p e below _ (T2.setTop (mkF m 45 #[.val (.ref o0), .val .null, .val .null] [.null, .null, (.ref o0), (.ref r), (.ref r)]))
  refine Goes.go (fun t => XS.aconstNull X2.here hx rfl (hb hby dM2_45)) ?_
  refine Goes.go (fun t => XS.iconst X2.here hx rfl (hb hby dM2_46)) ?_
  show Goes p e below _ (T2.setTop (mkF m 47 #[.val (.ref o0), .val .null, .val .null] [(.int (0 : Int32)), .null, .null, .null, (.ref o0), (.ref r), (.ref r)]))
  obtain ⟨_, _, ⟨T3, L3, k3, n3⟩, -, X3, ⟨Lc3, hQ3, l3, y3, z3⟩, st3⟩ := X2.specialBack hx (y := (⟨oEQ, "<init>", "(Ljava/lang/String;Ljava/lang/String;Lcom/example/thames/thames/model/ExpandedQName;Lcom/example/thames/thames/model/ExpandedQName;Z)V"⟩ : MethodName)) rfl hown (mvT hZ (own_h hw 210 rfl)) (mvT hZ (own_h hw 211 rfl)) (mvT hZ (own_h hw 212 rfl)) (by decide) (backOf (W := 1) (rmEI l Z a0 hw [] r (.ref o0) .null .null h2 n0 Z2 rfl rfl rfl A2 g_r F_namespaceUri_r_2 F_localName_r_2 F_name_r_2 F_attributeName_r_2 F_firstOnly_r_2) hZ (own_h hw 212 rfl) (own_h hw 97 rfl) (by decide) (by decide)) (g := (mkF m 47 #[.val (.ref o0), .val .null, .val .null] [(.int (0 : Int32)), .null, .null, .null, (.ref o0), (.ref r), (.ref r)])) rfl (by rw [hml]; rfl) (Steps.refl _) (a := r) (argsL := [(.ref o0), .null, .null, .null, (.int (0 : Int32))]) (rest := [(.ref r)]) (lenOf pdM2_1 rfl) rfl (by show 2 * 0 + _ ≤ _; exact Nat.le_of_eq rfl) (hb hby dM2_47) (fun _ _ => ⟨rfl, e2, (by decide : 3 + 0 ≤ _), (by decide : 78 + 0 ≤ _)⟩)
  dsimp only [Pt.U, Pt.locs, Pt.cells, Pt.slots] at X3 l3 y3 z3 st3 hQ3
  subst l3 y3 z3
  obtain ⟨rfl, N3q, K3⟩ := hQ3
  have N3 := Fr.app N1 N3q
  refine Goes.via st3 ?_
  have CQ3 := CHr.keep K3 (sfS (Safe.exa hZ.alike A2 (by decide) (by decide)) sf0) CH2
  have CH3 := CQ3.1
  have CR3 := CR2.trans CQ3
  have hk := Nat.le_trans hk K3.1
  have Z3 : n0 ≤ T3.heap.size := Nat.le_trans Z2 K3.1
  have E_r_3 : Exa Z T3.heap r oEQ := A2.keep K3
  have Kz3 : Keep h0 T3.heap [] := Kz2.trans K3 (allS (Or.inr sz_r) all0)
  show Goes p e below _ (T3.setTop (mkF m 50 #[.val (.ref o0), .val .null, .val .null] [(.ref r)]))
  exact Goes.outW X3 hS hk (fun h => by rw [Bd.returns] at h; cases h) Bd.notSynchronized (fun fs hr => retOut X3 hx Bd.returns rfl (Or.inr (Or.inr (Or.inr (Or.inr ⟨rfl, rfl, rfl⟩)))) (hb hby dM2_50) hr) ⟨r, rfl, N3, own_ext_of Kz3⟩ (by rw [hh]; exact CR3.trans (CHv.at X3 hZ (own_ew hw) CH3)) (by decide) (by decide)
theorem dM3_0 : decode prog_174_method_2_code 0 = .ok (.aload_n 1, 1) := by decide +kernel
theorem dM3_1 : decode prog_174_method_2_code 1 = .ok (.ifnull 7, 3) := by decide +kernel
theorem dM3_4 : decode prog_174_method_2_code 4 = .ok (.aload_n 1, 1) := by decide +kernel
theorem dM3_5 : decode prog_174_method_2_code 5 = .ok (.invokestatic 27, 3) := by decide +kernel
theorem dM3_8 : decode prog_174_method_2_code 8 = .ok (.aload_n 0, 1) := by decide +kernel
theorem dM3_9 : decode prog_174_method_2_code 9 = .ok (.ifnull 7, 3) := by decide +kernel
theorem dM3_12 : decode prog_174_method_2_code 12 = .ok (.aload_n 0, 1) := by decide +kernel
theorem dM3_13 : decode prog_174_method_2_code 13 = .ok (.invokestatic 33, 3) := by decide +kernel
theorem dM3_16 : decode prog_174_method_2_code 16 = .ok (.aconst_null, 1) := by decide +kernel
theorem dM3_17 : decode prog_174_method_2_code 17 = .ok (.astore_n 2, 1) := by decide +kernel
theorem dM3_18 : decode prog_174_method_2_code 18 = .ok (.aload_n 0, 1) := by decide +kernel
theorem dM3_19 : decode prog_174_method_2_code 19 = .ok (.ifnull 19, 3) := by decide +kernel
theorem dM3_22 : decode prog_174_method_2_code 22 = .ok (.aload_n 1, 1) := by decide +kernel
theorem dM3_23 : decode prog_174_method_2_code 23 = .ok (.ifnull 15, 3) := by decide +kernel
theorem dM3_26 : decode prog_174_method_2_code 26 = .ok (.new 28, 3) := by decide +kernel
theorem dM3_29 : decode prog_174_method_2_code 29 = .ok (.dup, 1) := by decide +kernel
theorem dM3_30 : decode prog_174_method_2_code 30 = .ok (.aload_n 0, 1) := by decide +kernel
theorem dM3_31 : decode prog_174_method_2_code 31 = .ok (.ldc 36, 2) := by decide +kernel
theorem dM3_33 : decode prog_174_method_2_code 33 = .ok (.aload_n 1, 1) := by decide +kernel
theorem dM3_34 : decode prog_174_method_2_code 34 = .ok (.invokespecial 38, 3) := by decide +kernel
theorem dM3_37 : decode prog_174_method_2_code 37 = .ok (.astore_n 2, 1) := by decide +kernel
theorem dM3_38 : decode prog_174_method_2_code 38 = .ok (.new 8, 3) := by decide +kernel
theorem dM3_41 : decode prog_174_method_2_code 41 = .ok (.dup, 1) := by decide +kernel
theorem dM3_42 : decode prog_174_method_2_code 42 = .ok (.aload_n 0, 1) := by decide +kernel
theorem dM3_43 : decode prog_174_method_2_code 43 = .ok (.aload_n 1, 1) := by decide +kernel
theorem dM3_44 : decode prog_174_method_2_code 44 = .ok (.aload_n 2, 1) := by decide +kernel
theorem dM3_45 : decode prog_174_method_2_code 45 = .ok (.aconst_null, 1) := by decide +kernel
theorem dM3_46 : decode prog_174_method_2_code 46 = .ok (.iconst 0, 1) := by decide +kernel
theorem dM3_47 : decode prog_174_method_2_code 47 = .ok (.invokespecial 41, 3) := by decide +kernel
theorem dM3_50 : decode prog_174_method_2_code 50 = .ok (.areturn, 1) := by decide +kernel
theorem pn_M3 : plainName oEQ = true := by first | (simp [plainName, overriddenIn]; done) | decide +kernel
theorem pdM3_0 : parseMethodDescriptor "(Ljava/lang/String;)V" = some ⟨[(.object "java/lang/String")], none⟩ := by decide +kernel
theorem pdM3_1 : parseMethodDescriptor "(Ljava/lang/String;Ljava/lang/String;Ljava/lang/String;)V" = some ⟨[(.object "java/lang/String"), (.object "java/lang/String"), (.object "java/lang/String")], none⟩ := by decide +kernel
theorem pdM3_2 : parseMethodDescriptor "(Ljava/lang/String;Ljava/lang/String;Lcom/example/thames/thames/model/ExpandedQName;Lcom/example/thames/thames/model/ExpandedQName;Z)V" = some ⟨[(.object "java/lang/String"), (.object "java/lang/String"), (.object oQN), (.object oQN), .boolean], none⟩ := by decide +kernel
theorem ef_M3 (m : MethodId) (o0 : Addr) (o1 : Addr) : entryFrame m #[(.ref o0), (.ref o1)] 3 = mkF m 0 #[.val (.ref o0), .val (.ref o1), .unset] [] := by first | (simp [entryFrame, mkF, argsToLocals, Value.category]; done) | rfl
def QM3 (Z : State) (o0 : Addr) (o1 : Addr) (z : Int32) (fm : Value) (wS : Addr) (wN : Addr) (cS : Cell) (cN : Cell) (csn : List Int32) (csl : List Int32) (h0 : Heap) (n0 : Nat) (v : Option Value) (h : Heap) (L : List Loc) : Prop := ∃ q : Addr, v = some (.ref q) ∧ Fr n0 L ∧ Ext h0 h
set_option maxRecDepth 65536 in
set_option maxHeartbeats 40000000 in
theorem rmM3 (l : Launch) (Z : State) (a0 : Array Value) (hw : ∀ d ∈ tables_1, d.before a0 Z = true) (ws : List Jvm.Cond) (o0 : Addr) (o1 : Addr) (z : Int32) (fm : Value) (wS : Addr) (wN : Addr) (cS : Cell) (cN : Cell) (csn : List Int32) (csl : List Int32) (h0 : Heap) (n0 : Nat) (Z0 : n0 ≤ h0.size) (V : own_env Z h0 z fm wS wN cS cN) (S1 : own_s Z h0 o0 csn) (hn1 : own_uri csn) (S3 : own_s Z h0 o1 csl) (hn3 : own_name csl) :
    MetFree l (⟨oEQ, "named", "(Ljava/lang/String;Ljava/lang/String;)Lcom/example/thames/thames/model/ElementQuery;"⟩ : MethodName) (head1 (Jvm.Cond.code (⟨oEQ, "named", "(Ljava/lang/String;Ljava/lang/String;)Lcom/example/thames/thames/model/ElementQuery;"⟩ : MethodName) prog_174_method_2_code 3 (some (.object oEQ)) :: ws) (oR 8 14 277 111)) (fun a U => a = #[(.ref o0), (.ref o1)] ∧ Z.Warmed39 U.vm ∧ U.heap = h0 ∧ CHv Z own_EL U.vm h0) (fun _ _ _ _ _ => True) (fun _ U o U' => ∃ v L, o = .returned v ∧ QM3 Z o0 o1 z fm wS wN cS cN csn csl h0 n0 v U'.heap L ∧ CHr Z own_EL U.vm U.heap U'.vm U'.heap ∧ ReturnedEndW U o U' L (oR 8 14 277 111).cells (oR 8 14 277 111).slots) := by
  refine MetFree.of_bodySF (plainFor_of_name pn_M3) hisR ?_
  intro p e s m args below meth c s₁ Bd hml0 hP hK
  obtain ⟨rfl, hZ, hh, CH⟩ := hP
  have hx := Bd.exec
  have hby := Bd.bytes
  have hml : c.maxLocals = 3 := hml0
  have hown : (s.setVm s.vm).vm.findClass oEQ = some m.cls := findClass_of_methodNamed Bd.named
  have hnm := (name_of_methodNamed Bd.named Bd.method).1
  have X0 : Stand p l e (oR 8 14 277 111) (s.setVm s.vm) m #[(.ref o0), (.ref o1)] below meth c s₁ [] 0 0 := Stand.of_body Bd
  have e0 : s₁.heap = h0 := by rw [← hh, Bd.state]; rfl
  have N0 := Fr.nil n0
  have hZ : Z.Warmed39 (s.setVm s.vm).vm := hZ
  have hS : s.Since s.vm h0.size := (State.WarmedH.refl s).since _
  have hk : h0.size ≤ h0.size := Nat.le_refl _
  have CR0 : CHr Z own_EL s.vm h0 s.vm h0 := CHr.refl CH
  show Goes p e below (fun o U' => ∃ v L, o = .returned v ∧ QM3 Z o0 o1 z fm wS wN cS cN csn csl h0 n0 v U'.heap L ∧ CHr Z own_EL s.vm s.heap U'.vm U'.heap ∧ ReturnedEndW s o U' L (oR 8 14 277 111).cells (oR 8 14 277 111).slots) _
  refine Goes.go (fun t k => castTop (ef_M3 m o0 o1) k) ?_
  show Goes p e below _ (s₁.setTop (mkF m 0 #[.val (.ref o0), .val (.ref o1), .unset] []))
  refine Goes.go (fun t => XS.aloadN X0.here hx rfl (hb hby dM3_0) rfl rfl ) ?_
  show Goes p e below _ (s₁.setTop (mkF m 1 #[.val (.ref o0), .val (.ref o1), .unset] [(.ref o1)]))
  refine Goes.go (fun t => XS.ifnullNo X0.here hx rfl (hb hby dM3_1) rfl) ?_
  show Goes p e below _ (s₁.setTop (mkF m 4 #[.val (.ref o0), .val (.ref o1), .unset] []))
  refine Goes.go (fun t => XS.aloadN X0.here hx rfl (hb hby dM3_4) rfl rfl ) ?_
  show Goes p e below _ (s₁.setTop (mkF m 5 #[.val (.ref o0), .val (.ref o1), .unset] [(.ref o1)]))
  obtain ⟨_, _, ⟨T1, L1, k1, n1⟩, -, X1, ⟨Lc1, hQ1, l1, y1, z1⟩, st1⟩ := Jvm.LawKit.callS X0 hx (y := (⟨oQN, "requireLocalName", "(Ljava/lang/String;)V"⟩ : MethodName)) hown (mvT hZ (own_h hw 99 rfl)) (mvT hZ (own_h hw 100 rfl)) (mvT hZ (own_h hw 101 rfl)) (mvT hZ (own_h hw 102 rfl)) (by decide) (backOf (W := 0) (rmRL l Z a0 hw [] o1 z fm wS wN cS cN csl h0 n0 Z0 (V.ext (⟨Nat.le_refl _, fun _ _ q => q⟩ : Ext h0 h0)) (S3.ext (⟨Nat.le_refl _, fun _ _ q => q⟩ : Ext h0 h0)) hn3) hZ (own_h hw 102 rfl) (own_h hw 101 rfl) (by decide) (by decide)) (g := (mkF m 5 #[.val (.ref o0), .val (.ref o1), .unset] [(.ref o1)])) rfl (by rw [hml]; rfl) (argsL := [(.ref o1)]) (rest := []) (lenOf pdM3_0 rfl) rfl (by show 2 * 0 + _ ≤ _; exact Nat.le_of_eq rfl) (hb hby dM3_5) (fun _ _ => ⟨rfl, e0, (by decide : 0 + 0 ≤ _), (by decide : 0 + 0 ≤ _)⟩)
  dsimp only [Pt.U, Pt.locs, Pt.cells, Pt.slots] at X1 l1 y1 z1 st1 hQ1
  subst l1 y1 z1
  obtain ⟨rfl, N1q, e1q⟩ := hQ1
  have N1 := Fr.app N0 N1q
  refine Goes.go st1 ?_
  show Goes p e below _ (T1.setTop (mkF m 8 #[.val (.ref o0), .val (.ref o1), .unset] []))
  refine Goes.go (fun t => XS.aloadN X1.here hx rfl (hb hby dM3_8) rfl rfl ) ?_
  show Goes p e below _ (T1.setTop (mkF m 9 #[.val (.ref o0), .val (.ref o1), .unset] [(.ref o0)]))
  refine Goes.go (fun t => XS.ifnullNo X1.here hx rfl (hb hby dM3_9) rfl) ?_
  show Goes p e below _ (T1.setTop (mkF m 12 #[.val (.ref o0), .val (.ref o1), .unset] []))
  refine Goes.go (fun t => XS.aloadN X1.here hx rfl (hb hby dM3_12) rfl rfl ) ?_
  show Goes p e below _ (T1.setTop (mkF m 13 #[.val (.ref o0), .val (.ref o1), .unset] [(.ref o0)]))
  obtain ⟨_, _, ⟨T2, L2, k2, n2⟩, -, X2, hS2, hg2, ⟨Lc2, hQ2, l2, y2, z2, CQ2⟩, st2⟩ := callSS X1 hx (y := (⟨oQN, "requireXmlNamespaceUri", "(Ljava/lang/String;)V"⟩ : MethodName)) hown (mvT hZ (own_h hw 168 rfl)) (mvT hZ (own_h hw 169 rfl)) (mvT hZ (own_h hw 101 rfl)) (mvT hZ (own_h hw 170 rfl)) (by decide) (backOfSH (s := s) (vm0 := s.vm) (W := 0) (rmUR l Z a0 hw [] o0 z fm wS wN cS cN csn h0 n0 Z0 (V.ext (⟨Nat.le_refl _, fun _ _ q => q⟩ : Ext h0 h0)) (S1.ext (⟨Nat.le_refl _, fun _ _ q => q⟩ : Ext h0 h0)) hn1) hZ (own_h hw 170 rfl) (own_h hw 101 rfl) (by decide) (by decide) (own_ew hw) CH) (g := (mkF m 13 #[.val (.ref o0), .val (.ref o1), .unset] [(.ref o0)])) rfl (by rw [hml]; rfl) (argsL := [(.ref o0)]) (rest := []) (lenOf pdM3_0 rfl) rfl (by show 2 * 0 + _ ≤ _; exact Nat.le_of_eq rfl) (hb hby dM3_13) (fun _ _ => ⟨rfl, e1q, (by decide : 0 + 2 ≤ _), (by decide : 0 + 72 ≤ _)⟩)
  dsimp only [Pt.U, Pt.locs, Pt.cells, Pt.slots] at X2 hS2 hg2 l2 y2 z2 st2 hQ2 CQ2
  subst l2 y2 z2
  obtain ⟨rfl, N2q, E2⟩ := hQ2
  have N2 := Fr.app N1 N2q
  obtain ⟨X2, hS, hZ, hown⟩ := rebS (n1 := T1.heap.size) hS (by rw [e1q]; exact hk) X2 hS2 hg2 hZ hown
  have hk : T2.heap.size ≤ T2.heap.size := Nat.le_refl _
  have CH2 := CQ2.1
  have CR2 := CR0.trans CQ2
  refine Goes.via st2 ?_
  have Z2 : n0 ≤ T2.heap.size := Nat.le_trans Z0 E2.1
  have B2 : Ext h0 T2.heap := own_ext_trans (⟨Nat.le_refl _, fun _ _ q => q⟩ : Ext h0 h0) E2
  have Kz2 : Keep h0 T2.heap [] := (Keep.refl h0 []).ext E2
  show Goes p e below _ (T2.setTop (mkF m 16 #[.val (.ref o0), .val (.ref o1), .unset] []))
  refine Goes.go (fun t => XS.aconstNull X2.here hx rfl (hb hby dM3_16)) ?_
  refine Goes.go (fun t => XS.astoreN X2.here hx rfl (hb hby dM3_17) rfl rfl (l' := #[.val (.ref o0), .val (.ref o1), .val .null]) rfl) ?_
  refine Goes.go (fun t => XS.aloadN X2.here hx rfl (hb hby dM3_18) rfl rfl ) ?_
  show Goes p e below _ (T2.setTop (mkF m 19 #[.val (.ref o0), .val (.ref o1), .val .null] [(.ref o0)]))
  refine Goes.go (fun t => XS.ifnullNo X2.here hx rfl (hb hby dM3_19) rfl) ?_
  show Goes p e below _ (T2.setTop (mkF m 22 #[.val (.ref o0), .val (.ref o1), .val .null] []))
  refine Goes.go (fun t => XS.aloadN X2.here hx rfl (hb hby dM3_22) rfl rfl ) ?_
  show Goes p e below _ (T2.setTop (mkF m 23 #[.val (.ref o0), .val (.ref o1), .val .null] [(.ref o1)]))
  refine Goes.go (fun t => XS.ifnullNo X2.here hx rfl (hb hby dM3_23) rfl) ?_
  show Goes p e below _ (T2.setTop (mkF m 26 #[.val (.ref o0), .val (.ref o1), .val .null] []))
  obtain ⟨T3, h3, X3, e3, E3, A3, D3, -, st3⟩ := newO X2 hx hZ hown (own_h hw 181 rfl) (own_h hw 182 rfl) (own_h hw 101 rfl) rfl (g := (mkF m 26 #[.val (.ref o0), .val (.ref o1), .val .null] [])) rfl (hb hby dM3_26) (by decide) (by decide)
  obtain ⟨q, gq_q⟩ : ∃ z, z = T2.heap.size := ⟨_, rfl⟩
  rw [← gq_q] at A3 D3 st3
  have g_q : n0 ≤ q := Nat.le_trans Z2 (Nat.le_of_eq gq_q.symm)
  have gb_q : h0.size ≤ q := Nat.le_trans B2.1 (Nat.le_of_eq gq_q.symm)
  have sz_q : h0.size ≤ q := Nat.le_trans Kz2.1 (Nat.le_of_eq gq_q.symm)
  have Kz3 : Keep h0 h3 [] := Kz2.ext E3
  have CQ3 := CHr.ext E3 CH2
  have CH3 := CQ3.1
  have CR3 := CR2.trans CQ3
  have hk := Nat.le_trans hk E3.1
  have Z3 : n0 ≤ h3.size := Nat.le_trans Z2 E3.1
  have B3 : Ext h0 h3 := own_ext_trans B2 E3
  have F_namespaceUri_q_3 : Fld Z h3 q oQN "namespaceUri" "Ljava/lang/String;" .null := D3 (Or.inr (own_h hw 203 rfl)) (ty := (.object "java/lang/String")) (by decide)
  have F_prefix_q_3 : Fld Z h3 q oQN "prefix" "Ljava/lang/String;" .null := D3 (Or.inr (own_h hw 205 rfl)) (ty := (.object "java/lang/String")) (by decide)
  have F_localName_q_3 : Fld Z h3 q oQN "localName" "Ljava/lang/String;" .null := D3 (Or.inr (own_h hw 207 rfl)) (ty := (.object "java/lang/String")) (by decide)
  refine Goes.go st3 ?_
  show Goes p e below _ (T3.setTop (mkF m 29 #[.val (.ref o0), .val (.ref o1), .val .null] [(.ref q)]))
  refine Goes.go (fun t => XS.dup X3.here hx rfl (hb hby dM3_29) rfl rfl) ?_
  refine Goes.go (fun t => XS.aloadN X3.here hx rfl (hb hby dM3_30) rfl rfl ) ?_
  show Goes p e below _ (T3.setTop (mkF m 31 #[.val (.ref o0), .val (.ref o1), .val .null] [(.ref o0), (.ref q), (.ref q)]))
  obtain ⟨a4, T4, h4, k4, b4, kc4, X4, e4, E4, hS, hk, hZ, hown, Ea4, Fc4, Fv4, Av4, -, -, CQ4, -, nq4, st4⟩ := ldcCH (s := s) (vm0 := T2.vm) X3 hx hZ hown (own_h hw 183 rfl) (own_wS hw) e3 hS hk (own_ew hw) (EL := own_EL) (by simp [own_EL]) CH3 (vs := []) (z := 0) ⟨by simp, by simp⟩ (by decide) (by decide) (g := (mkF m 31 #[.val (.ref o0), .val (.ref o1), .val .null] [(.ref o0), (.ref q), (.ref q)])) rfl (hb hby dM3_31) (n := 0) (by decide) (by decide) (by decide) (by decide)
  have CH4 := CQ4.1
  have CR4 := CR3.trans CQ4
  have Z4 : n0 ≤ h4.size := Nat.le_trans Z3 E4.1
  have B4 : Ext h0 h4 := own_ext_trans B3 E4
  have E_q_4 : Exa Z h4 q oQN := A3.ext E4
  have F_namespaceUri_q_4 : Fld Z h4 q oQN "namespaceUri" "Ljava/lang/String;" .null := F_namespaceUri_q_3.ext E4
  have F_prefix_q_4 : Fld Z h4 q oQN "prefix" "Ljava/lang/String;" .null := F_prefix_q_3.ext E4
  have F_localName_q_4 : Fld Z h4 q oQN "localName" "Ljava/lang/String;" .null := F_localName_q_3.ext E4
  have Kz4 : Keep h0 h4 [] := Kz3.ext E4
  refine Goes.go st4 ?_
  show Goes p e below _ (T4.setTop (mkF m 33 #[.val (.ref o0), .val (.ref o1), .val .null] [(.ref a4), (.ref o0), (.ref q), (.ref q)]))
  refine Goes.go (fun t => XS.aloadN X4.here hx rfl (hb hby dM3_33) rfl rfl ) ?_
  show Goes p e below _ (T4.setTop (mkF m 34 #[.val (.ref o0), .val (.ref o1), .val .null] [(.ref o1), (.ref a4), (.ref o0), (.ref q), (.ref q)]))
  have Sa : own_s Z h4 a4 [] := ⟨Ea4, Fc4, ⟨b4, kc4, Fv4, Av4⟩, by simp, by decide⟩
  obtain ⟨_, _, ⟨T5, L5, k5, n5⟩, -, X5, hS5, hg5, ⟨Lc5, hQ5, l5, y5, z5, CQ5⟩, st5⟩ := X4.specialBackS hx (y := (⟨oQN, "<init>", "(Ljava/lang/String;Ljava/lang/String;Ljava/lang/String;)V"⟩ : MethodName)) rfl hown (mvT hZ (own_h hw 184 rfl)) (mvT hZ (own_h hw 185 rfl)) (mvT hZ (own_h hw 186 rfl)) (by decide) (backOfSH (s := s) (vm0 := T4.vm) (W := 1) (rmQI l Z a0 hw [] q o0 a4 o1 z fm wS wN cS cN csn csl h4 n0 Z4 (V.ext B4) (S1.ext B4) Sa (S3.ext B4) hn1 hn3 E_q_4 g_q F_namespaceUri_q_4 F_prefix_q_4 F_localName_q_4) hZ (own_h hw 186 rfl) (own_h hw 101 rfl) (by decide) (by decide) (own_ew hw) CH4) (g := (mkF m 34 #[.val (.ref o0), .val (.ref o1), .val .null] [(.ref o1), (.ref a4), (.ref o0), (.ref q), (.ref q)])) rfl (by rw [hml]; rfl) (Steps.refl _) (a := q) (argsL := [(.ref o0), (.ref a4), (.ref o1)]) (rest := [(.ref q)]) (lenOf pdM3_1 rfl) rfl (by show 2 * 0 + _ ≤ _; exact Nat.le_of_eq rfl) (hb hby dM3_34) (fun _ _ => ⟨rfl, e4, (by decide : 5 + 8 ≤ _), (by decide : 79 + 192 ≤ _)⟩)
  dsimp only [Pt.U, Pt.locs, Pt.cells, Pt.slots] at X5 hS5 hg5 l5 y5 z5 st5 hQ5 CQ5
  subst l5 y5 z5
  obtain ⟨rfl, N5q, K5⟩ := hQ5
  have N5 := Fr.app N2 N5q
  obtain ⟨X5, hS, hZ, hown⟩ := rebS (n1 := T4.heap.size) hS (by rw [e4]; exact hk) X5 hS5 hg5 hZ hown
  have hk : T5.heap.size ≤ T5.heap.size := Nat.le_refl _
  have CH5 := CQ5.1
  have CR5 := CR4.trans CQ5
  refine Goes.via st5 ?_
  have Z5 : n0 ≤ T5.heap.size := Nat.le_trans Z4 K5.1
  have E_q_5 : Exa Z T5.heap q oQN := E_q_4.keep K5
  have Kz5 : Keep h0 T5.heap [] := Kz4.trans K5 (allS (Or.inr sz_q) all0)
  show Goes p e below _ (T5.setTop (mkF m 37 #[.val (.ref o0), .val (.ref o1), .val .null] [(.ref q)]))
  refine Goes.go (fun t => XS.astoreN X5.here hx rfl (hb hby dM3_37) rfl rfl (l' := #[.val (.ref o0), .val (.ref o1), .val (.ref q)]) rfl) ?_
  show Goes p e below _ (T5.setTop (mkF m 38 #[.val (.ref o0), .val (.ref o1), .val (.ref q)] []))
  obtain ⟨T6, h6, X6, e6, E6, A6, D6, -, st6⟩ := newO X5 hx hZ hown (own_h hw 208 rfl) (own_h hw 209 rfl) (own_h hw 97 rfl) rfl (g := (mkF m 38 #[.val (.ref o0), .val (.ref o1), .val (.ref q)] [])) rfl (hb hby dM3_38) (by decide) (by decide)
  obtain ⟨r, gq_r⟩ : ∃ z, z = T5.heap.size := ⟨_, rfl⟩
  rw [← gq_r] at A6 D6 st6
  have g_r : n0 ≤ r := Nat.le_trans Z5 (Nat.le_of_eq gq_r.symm)
  have ne_q_r : q ≠ r := Nat.ne_of_lt (Nat.lt_of_lt_of_le E_q_5.lt (Nat.le_of_eq gq_r.symm))
  have sz_r : h0.size ≤ r := Nat.le_trans Kz5.1 (Nat.le_of_eq gq_r.symm)
  have Kz6 : Keep h0 h6 [] := Kz5.ext E6
  have CQ6 := CHr.ext E6 CH5
  have CH6 := CQ6.1
  have CR6 := CR5.trans CQ6
  have hk := Nat.le_trans hk E6.1
  have Z6 : n0 ≤ h6.size := Nat.le_trans Z5 E6.1
  have E_q_6 : Exa Z h6 q oQN := E_q_5.ext E6
  have F_namespaceUri_r_6 : Fld Z h6 r oEQ "namespaceUri" "Ljava/lang/String;" .null := D6 (Or.inr (own_h hw 215 rfl)) (ty := (.object "java/lang/String")) (by decide)
  have F_localName_r_6 : Fld Z h6 r oEQ "localName" "Ljava/lang/String;" .null := D6 (Or.inr (own_h hw 217 rfl)) (ty := (.object "java/lang/String")) (by decide)
  have F_name_r_6 : Fld Z h6 r oEQ "name" "Lcom/example/thames/thames/model/ExpandedQName;" .null := D6 (Or.inr (own_h hw 219 rfl)) (ty := (.object oQN)) (by decide)
  have F_attributeName_r_6 : Fld Z h6 r oEQ "attributeName" "Lcom/example/thames/thames/model/ExpandedQName;" .null := D6 (Or.inr (own_h hw 221 rfl)) (ty := (.object oQN)) (by decide)
  have F_firstOnly_r_6 : Fld Z h6 r oEQ "firstOnly" "Z" (.int (0 : Int32)) := D6 (Or.inr (own_h hw 223 rfl)) (ty := .boolean) (by decide)
  refine Goes.go st6 ?_
  show Goes p e below _ (T6.setTop (mkF m 41 #[.val (.ref o0), .val (.ref o1), .val (.ref q)] [(.ref r)]))
  refine Goes.go (fun t => XS.dup X6.here hx rfl (hb hby dM3_41) rfl rfl) ?_
  refine Goes.go (fun t => XS.aloadN X6.here hx rfl (hb hby dM3_42) rfl rfl ) ?_
  refine Goes.go (fun t => XS.aloadN X6.here hx rfl (hb hby dM3_43) rfl rfl ) ?_
  refine Goes.go (fun t => XS.aloadN X6.here hx rfl (hb hby dM3_44) rfl rfl ) ?_
  show Goes p e below _ (T6.setTop (mkF m 45 #[.val (.ref o0), .val (.ref o1), .val (.ref q)] [(.ref q), (.ref o1), (.ref o0), (.ref r), (.ref r)]))
  refine Goes.go (fun t => XS.aconstNull X6.here hx rfl (hb hby dM3_45)) ?_
  refine Goes.go (fun t => XS.iconst X6.here hx rfl (hb hby dM3_46)) ?_
  show Goes p e below _ (T6.setTop (mkF m 47 #[.val (.ref o0), .val (.ref o1), .val (.ref q)] [(.int (0 : Int32)), .null, (.ref q), (.ref o1), (.ref o0), (.ref r), (.ref r)]))
  obtain ⟨_, _, ⟨T7, L7, k7, n7⟩, -, X7, ⟨Lc7, hQ7, l7, y7, z7⟩, st7⟩ := X6.specialBack hx (y := (⟨oEQ, "<init>", "(Ljava/lang/String;Ljava/lang/String;Lcom/example/thames/thames/model/ExpandedQName;Lcom/example/thames/thames/model/ExpandedQName;Z)V"⟩ : MethodName)) rfl hown (mvT hZ (own_h hw 210 rfl)) (mvT hZ (own_h hw 211 rfl)) (mvT hZ (own_h hw 212 rfl)) (by decide) (backOf (W := 1) (rmEI l Z a0 hw [] r (.ref o0) (.ref o1) (.ref q) h6 n0 Z6 rfl rfl rfl A6 g_r F_namespaceUri_r_6 F_localName_r_6 F_name_r_6 F_attributeName_r_6 F_firstOnly_r_6) hZ (own_h hw 212 rfl) (own_h hw 97 rfl) (by decide) (by decide)) (g := (mkF m 47 #[.val (.ref o0), .val (.ref o1), .val (.ref q)] [(.int (0 : Int32)), .null, (.ref q), (.ref o1), (.ref o0), (.ref r), (.ref r)])) rfl (by rw [hml]; rfl) (Steps.refl _) (a := r) (argsL := [(.ref o0), (.ref o1), (.ref q), .null, (.int (0 : Int32))]) (rest := [(.ref r)]) (lenOf pdM3_2 rfl) rfl (by show 2 * 0 + _ ≤ _; exact Nat.le_of_eq rfl) (hb hby dM3_47) (fun _ _ => ⟨rfl, e6, (by decide : 14 + 0 ≤ _), (by decide : 277 + 0 ≤ _)⟩)
  dsimp only [Pt.U, Pt.locs, Pt.cells, Pt.slots] at X7 l7 y7 z7 st7 hQ7
  subst l7 y7 z7
  obtain ⟨rfl, N7q, K7⟩ := hQ7
  have N7 := Fr.app N5 N7q
  refine Goes.via st7 ?_
  have CQ7 := CHr.keep K7 (sfS (Safe.exa hZ.alike A6 (by decide) (by decide)) sf0) CH6
  have CH7 := CQ7.1
  have CR7 := CR6.trans CQ7
  have hk := Nat.le_trans hk K7.1
  have Z7 : n0 ≤ T7.heap.size := Nat.le_trans Z6 K7.1
  have E_q_7 : Exa Z T7.heap q oQN := E_q_6.keep K7
  have E_r_7 : Exa Z T7.heap r oEQ := A6.keep K7
  have Kz7 : Keep h0 T7.heap [] := Kz6.trans K7 (allS (Or.inr sz_r) all0)
  show Goes p e below _ (T7.setTop (mkF m 50 #[.val (.ref o0), .val (.ref o1), .val (.ref q)] [(.ref r)]))
  exact Goes.outW X7 hS hk (fun h => by rw [Bd.returns] at h; cases h) Bd.notSynchronized (fun fs hr => retOut X7 hx Bd.returns rfl (Or.inr (Or.inr (Or.inr (Or.inr ⟨rfl, rfl, rfl⟩)))) (hb hby dM3_50) hr) ⟨r, rfl, N7, own_ext_of Kz7⟩ (by rw [hh]; exact CR7.trans (CHv.at X7 hZ (own_ew hw) CH7)) (by decide) (by decide)
def QNM (Z : State) (v0 : Value) (v1 : Value) (z : Int32) (fm : Value) (wS : Addr) (wN : Addr) (cS : Cell) (cN : Cell) (h0 : Heap) (n0 : Nat) (v : Option Value) (h : Heap) (L : List Loc) : Prop := ∃ q : Addr, v = some (.ref q) ∧ Fr n0 L ∧ Ext h0 h
set_option maxRecDepth 65536 in
set_option maxHeartbeats 40000000 in
theorem rmNM (l : Launch) (Z : State) (a0 : Array Value) (hw : ∀ d ∈ tables_1, d.before a0 Z = true) (ws : List Jvm.Cond) (v0 : Value) (v1 : Value) (z : Int32) (fm : Value) (wS : Addr) (wN : Addr) (cS : Cell) (cN : Cell) (h0 : Heap) (n0 : Nat) (Z0 : n0 ≤ h0.size) (V : own_env Z h0 z fm wS wN cS cN) (hv0 : own_nsv Z h0 v0) (hv1 : own_lnv Z h0 v1) :
    MetFree l (⟨oEQ, "named", "(Ljava/lang/String;Ljava/lang/String;)Lcom/example/thames/thames/model/ElementQuery;"⟩ : MethodName) (head1 (Jvm.Cond.code (⟨oEQ, "named", "(Ljava/lang/String;Ljava/lang/String;)Lcom/example/thames/thames/model/ElementQuery;"⟩ : MethodName) prog_174_method_2_code 3 (some (.object oEQ)) :: ws) (oR 8 14 277 111)) (fun a U => a = #[v0, v1] ∧ Z.Warmed39 U.vm ∧ U.heap = h0 ∧ CHv Z own_EL U.vm h0) (fun _ _ _ _ _ => True) (fun _ U o U' => ∃ v L, o = .returned v ∧ QNM Z v0 v1 z fm wS wN cS cN h0 n0 v U'.heap L ∧ CHr Z own_EL U.vm U.heap U'.vm U'.heap ∧ ReturnedEndW U o U' L (oR 8 14 277 111).cells (oR 8 14 277 111).slots) := by
  rcases hv0 with rfl | ⟨x0, csn, rfl, S1, hn1⟩ <;> rcases hv1 with rfl | ⟨x1, csl, rfl, S3, hn3⟩
  · exact rmM0 l Z a0 hw ws z fm wS wN cS cN h0 n0 Z0 V
  · exact rmM1 l Z a0 hw ws x1 z fm wS wN cS cN csl h0 n0 Z0 V S3 hn3
  · exact rmM2 l Z a0 hw ws x0 z fm wS wN cS cN csn h0 n0 Z0 V S1 hn1
  · exact rmM3 l Z a0 hw ws x0 x1 z fm wS wN cS cN csn csl h0 n0 Z0 V S1 hn1 S3 hn3
theorem dFE_0 : decode prog_106_method_2_code 0 = .ok (.aload_n 0, 1) := by decide +kernel
theorem dFE_1 : decode prog_106_method_2_code 1 = .ok (.invokespecial 7, 3) := by decide +kernel
theorem dFE_4 : decode prog_106_method_2_code 4 = .ok (.aload_n 0, 1) := by decide +kernel
theorem dFE_5 : decode prog_106_method_2_code 5 = .ok (.aload_n 1, 1) := by decide +kernel
theorem dFE_6 : decode prog_106_method_2_code 6 = .ok (.putfield 12, 3) := by decide +kernel
theorem dFE_9 : decode prog_106_method_2_code 9 = .ok (.aload_n 0, 1) := by decide +kernel
theorem dFE_10 : decode prog_106_method_2_code 10 = .ok (.aload_n 2, 1) := by decide +kernel
theorem dFE_11 : decode prog_106_method_2_code 11 = .ok (.putfield 16, 3) := by decide +kernel
theorem dFE_14 : decode prog_106_method_2_code 14 = .ok (.aload_n 0, 1) := by decide +kernel
theorem dFE_15 : decode prog_106_method_2_code 15 = .ok (.aload_n 3, 1) := by decide +kernel
theorem dFE_16 : decode prog_106_method_2_code 16 = .ok (.putfield 20, 3) := by decide +kernel
theorem dFE_19 : decode prog_106_method_2_code 19 = .ok (.aload_n 0, 1) := by decide +kernel
theorem dFE_20 : decode prog_106_method_2_code 20 = .ok (.aload 4, 2) := by decide +kernel
theorem dFE_22 : decode prog_106_method_2_code 22 = .ok (.putfield 23, 3) := by decide +kernel
theorem dFE_25 : decode prog_106_method_2_code 25 = .ok (.aload_n 0, 1) := by decide +kernel
theorem dFE_26 : decode prog_106_method_2_code 26 = .ok (.aload 5, 2) := by decide +kernel
theorem dFE_28 : decode prog_106_method_2_code 28 = .ok (.putfield 27, 3) := by decide +kernel
theorem dFE_31 : decode prog_106_method_2_code 31 = .ok (.aconst_null, 1) := by decide +kernel
theorem dFE_32 : decode prog_106_method_2_code 32 = .ok (.astore 6, 2) := by decide +kernel
theorem dFE_34 : decode prog_106_method_2_code 34 = .ok (.aload_n 0, 1) := by decide +kernel
theorem dFE_35 : decode prog_106_method_2_code 35 = .ok (.invokevirtual 31, 3) := by decide +kernel
theorem dFE_38 : decode prog_106_method_2_code 38 = .ok (.ifCond .eq 10, 3) := by decide +kernel
theorem dFE_41 : decode prog_106_method_2_code 41 = .ok (.aload_n 2, 1) := by decide +kernel
theorem dFE_42 : decode prog_106_method_2_code 42 = .ok (.aload_n 3, 1) := by decide +kernel
theorem dFE_43 : decode prog_106_method_2_code 43 = .ok (.invokestatic 35, 3) := by decide +kernel
theorem dFE_46 : decode prog_106_method_2_code 46 = .ok (.astore 6, 2) := by decide +kernel
theorem dFE_48 : decode prog_106_method_2_code 48 = .ok (.aload_n 0, 1) := by decide +kernel
theorem dFE_49 : decode prog_106_method_2_code 49 = .ok (.aload 6, 2) := by decide +kernel
theorem dFE_51 : decode prog_106_method_2_code 51 = .ok (.putfield 41, 3) := by decide +kernel
theorem dFE_54 : decode prog_106_method_2_code 54 = .ok (.return_, 1) := by decide +kernel
theorem pn_FE : plainName oNT = true := by first | (simp [plainName, overriddenIn]; done) | decide +kernel
theorem pdFE_0 : parseMethodDescriptor "()Z" = some ⟨[], some .boolean⟩ := by decide +kernel
theorem pdFE_1 : parseMethodDescriptor "(Ljava/lang/String;Ljava/lang/String;)Lcom/example/thames/thames/model/ElementQuery;" = some ⟨[(.object "java/lang/String"), (.object "java/lang/String")], some (.object oEQ)⟩ := by decide +kernel
theorem ef_FE (m : MethodId) (o0 : Addr) (wE : Addr) (v2 : Value) (v3 : Value) (r_v2 : v2.isRef = true) (r_v3 : v3.isRef = true) : entryFrame m #[(.ref o0), (.ref wE), v2, v3, .null, .null] 7 = mkF m 0 #[.val (.ref o0), .val (.ref wE), .val v2, .val v3, .val .null, .val .null, .unset] [] := by rcases ref_cases r_v2 with rfl | ⟨_, rfl⟩ <;> rcases ref_cases r_v3 with rfl | ⟨_, rfl⟩ <;> first | (simp [entryFrame, mkF, argsToLocals, Value.category]; done) | rfl
def QFE (Z : State) (o0 : Addr) (wE : Addr) (v2 : Value) (v3 : Value) (z : Int32) (fm : Value) (wS : Addr) (wN : Addr) (cS : Cell) (cN : Cell) (hB : Heap) (h0 : Heap) (n0 : Nat) (v : Option Value) (h : Heap) (L : List Loc) : Prop := v = none ∧ Fr n0 L ∧ Keep h0 h [o0] ∧ Fld Z h o0 oNT "kind" "Lcom/example/thames/thames/model/NodeKind;" (.ref wE) ∧ ∃ q : Addr, Fld Z h o0 oNT "elementQuery" "Lcom/example/thames/thames/model/ElementQuery;" (.ref q)
set_option maxRecDepth 65536 in
set_option maxHeartbeats 40000000 in
theorem rmFE (l : Launch) (Z : State) (a0 : Array Value) (hw : ∀ d ∈ tables_1, d.before a0 Z = true) (ws : List Jvm.Cond) (o0 : Addr) (wE : Addr) (v2 : Value) (v3 : Value) (z : Int32) (fm : Value) (wS : Addr) (wN : Addr) (cS : Cell) (cN : Cell) (hB : Heap) (h0 : Heap) (n0 : Nat) (Z0 : n0 ≤ h0.size) (r_v2 : v2.isRef = true) (r_v3 : v3.isRef = true) (B0 : Ext hB h0) (gb_o0 : hB.size ≤ o0) (g_o0 : n0 ≤ o0) (S_E : Sta Z hB oNK "ELEMENT" "Lcom/example/thames/thames/model/NodeKind;" (.ref wE)) (E_o0 : Exa Z h0 o0 oNT) (F_kind : Fld Z h0 o0 oNT "kind" "Lcom/example/thames/thames/model/NodeKind;" .null) (F_namespaceUri : Fld Z h0 o0 oNT "namespaceUri" "Ljava/lang/String;" .null) (F_localName : Fld Z h0 o0 oNT "localName" "Ljava/lang/String;" .null) (F_type : Fld Z h0 o0 oNT "type" "Lcom/example/thames/thames/model/SchemaType;" .null) (F_elementTest : Fld Z h0 o0 oNT "elementTest" "Lcom/example/thames/thames/engine/NodeTest;" .null) (F_elementQuery : Fld Z h0 o0 oNT "elementQuery" "Lcom/example/thames/thames/model/ElementQuery;" .null) (V : own_env Z hB z fm wS wN cS cN) (hv2 : own_nsv Z hB v2) (hv3 : own_lnv Z hB v3) :
    MetFree l (⟨oNT, "<init>", "(Lcom/example/thames/thames/model/NodeKind;Ljava/lang/String;Ljava/lang/String;Lcom/example/thames/thames/model/SchemaType;Lcom/example/thames/thames/engine/NodeTest;)V"⟩ : MethodName) (head1 (Jvm.Cond.code (⟨oNT, "<init>", "(Lcom/example/thames/thames/model/NodeKind;Ljava/lang/String;Ljava/lang/String;Lcom/example/thames/thames/model/SchemaType;Lcom/example/thames/thames/engine/NodeTest;)V"⟩ : MethodName) prog_106_method_2_code 7 none :: ws) (oR 9 14 277 125)) (fun a U => a = #[(.ref o0), (.ref wE), v2, v3, .null, .null] ∧ Z.Warmed39 U.vm ∧ U.heap = h0 ∧ CHv Z own_EL U.vm h0) (fun _ _ _ _ _ => True) (fun _ U o U' => ∃ v L, o = .returned v ∧ QFE Z o0 wE v2 v3 z fm wS wN cS cN hB h0 n0 v U'.heap L ∧ CHr Z own_EL U.vm U.heap U'.vm U'.heap ∧ ReturnedEndW U o U' L (oR 9 14 277 125).cells (oR 9 14 277 125).slots) := by
  refine MetFree.of_bodySF (plainFor_of_name pn_FE) hisR ?_
  intro p e s m args below meth c s₁ Bd hml0 hP hK
  obtain ⟨rfl, hZ, hh, CH⟩ := hP
  have hx := Bd.exec
  have hby := Bd.bytes
  have hml : c.maxLocals = 7 := hml0
  have hown : (s.setVm s.vm).vm.findClass oNT = some m.cls := findClass_of_methodNamed Bd.named
  have hnm := (name_of_methodNamed Bd.named Bd.method).1
  have X0 : Stand p l e (oR 9 14 277 125) (s.setVm s.vm) m #[(.ref o0), (.ref wE), v2, v3, .null, .null] below meth c s₁ [] 0 0 := Stand.of_body Bd
  have e0 : s₁.heap = h0 := by rw [← hh, Bd.state]; rfl
  have N0 := Fr.nil n0
  have hZ : Z.Warmed39 (s.setVm s.vm).vm := hZ
  have hS : s.Since s.vm h0.size := (State.WarmedH.refl s).since _
  have hk : h0.size ≤ h0.size := Nat.le_refl _
  have CR0 : CHr Z own_EL s.vm h0 s.vm h0 := CHr.refl CH
  show Goes p e below (fun o U' => ∃ v L, o = .returned v ∧ QFE Z o0 wE v2 v3 z fm wS wN cS cN hB h0 n0 v U'.heap L ∧ CHr Z own_EL s.vm s.heap U'.vm U'.heap ∧ ReturnedEndW s o U' L (oR 9 14 277 125).cells (oR 9 14 277 125).slots) _
  refine Goes.go (fun t k => castTop (ef_FE m o0 wE v2 v3 r_v2 r_v3) k) ?_
  show Goes p e below _ (s₁.setTop (mkF m 0 #[.val (.ref o0), .val (.ref wE), .val v2, .val v3, .val .null, .val .null, .unset] []))
  refine Goes.go (fun t => XS.aloadN X0.here hx rfl (hb hby dFE_0) rfl rfl ) ?_
  show Goes p e below _ (s₁.setTop (mkF m 1 #[.val (.ref o0), .val (.ref wE), .val v2, .val v3, .val .null, .val .null, .unset] [(.ref o0)]))
  obtain ⟨T1, X1, e1, st1⟩ := initO X0 hx hZ hown (own_h hw 57 rfl) (own_h hw 23 rfl) (own_h hw 24 rfl) e0 (g := (mkF m 1 #[.val (.ref o0), .val (.ref wE), .val v2, .val v3, .val .null, .val .null, .unset] [(.ref o0)])) rfl (by rw [hml]; rfl) rfl (hb hby dFE_1) (by decide) (W := 0) (by show 2 * 0 + _ ≤ _; exact Nat.le_of_eq rfl) (by decide)
  refine Goes.go st1 ?_
  show Goes p e below _ (T1.setTop (mkF m 4 #[.val (.ref o0), .val (.ref wE), .val v2, .val v3, .val .null, .val .null, .unset] []))
  refine Goes.go (fun t => XS.aloadN X1.here hx rfl (hb hby dFE_4) rfl rfl ) ?_
  refine Goes.go (fun t => XS.aloadN X1.here hx rfl (hb hby dFE_5) rfl rfl ) ?_
  show Goes p e below _ (T1.setTop (mkF m 6 #[.val (.ref o0), .val (.ref wE), .val v2, .val v3, .val .null, .val .null, .unset] [(.ref wE), (.ref o0)]))
  have sf2 : Safe Z own_EL s.vm h0 o0 := (Safe.exa hZ.alike E_o0 (by decide) (by decide))
  obtain ⟨T3, h3, X3, e3, W3, st3⟩ := putF X1 hx hZ hown (host := "") (Or.inl (own_h hw 58 rfl)) Via.refl e1 F_kind E_o0 (Or.inr ⟨(own_h hw 59 rfl), rfl, hnm⟩) (own_h hw 49 rfl) (ty := (.object oNK)) (by decide) rfl rfl (g := (mkF m 6 #[.val (.ref o0), .val (.ref wE), .val v2, .val v3, .val .null, .val .null, .unset] [(.ref wE), (.ref o0)])) rfl rfl (hb hby dFE_6)
  have F_kind_o0_3 : Fld Z h3 o0 oNT "kind" "Lcom/example/thames/thames/model/NodeKind;" (.ref wE) := F_kind.same W3
  have F_namespaceUri_o0_3 : Fld Z h3 o0 oNT "namespaceUri" "Ljava/lang/String;" .null := F_namespaceUri.other W3 (Or.inr (slot_ne (Or.inr (own_h hw 61 rfl)) (Or.inr (own_h hw 59 rfl)) (by decide) (t := (.object "java/lang/String")) (t' := (.object oNK)) (by decide) (by decide)))
  have F_localName_o0_3 : Fld Z h3 o0 oNT "localName" "Ljava/lang/String;" .null := F_localName.other W3 (Or.inr (slot_ne (Or.inr (own_h hw 63 rfl)) (Or.inr (own_h hw 59 rfl)) (by decide) (t := (.object "java/lang/String")) (t' := (.object oNK)) (by decide) (by decide)))
  have F_type_o0_3 : Fld Z h3 o0 oNT "type" "Lcom/example/thames/thames/model/SchemaType;" .null := F_type.other W3 (Or.inr (slot_ne (Or.inr (own_h hw 65 rfl)) (Or.inr (own_h hw 59 rfl)) (by decide) (t := (.object "com/example/thames/thames/model/SchemaType")) (t' := (.object oNK)) (by decide) (by decide)))
  have F_elementTest_o0_3 : Fld Z h3 o0 oNT "elementTest" "Lcom/example/thames/thames/engine/NodeTest;" .null := F_elementTest.other W3 (Or.inr (slot_ne (Or.inr (own_h hw 67 rfl)) (Or.inr (own_h hw 59 rfl)) (by decide) (t := (.object oNT)) (t' := (.object oNK)) (by decide) (by decide)))
  have F_elementQuery_o0_3 : Fld Z h3 o0 oNT "elementQuery" "Lcom/example/thames/thames/model/ElementQuery;" .null := F_elementQuery.other W3 (Or.inr (slot_ne (Or.inr (own_h hw 75 rfl)) (Or.inr (own_h hw 59 rfl)) (by decide) (t := (.object oEQ)) (t' := (.object oNK)) (by decide) (by decide)))
  have CQ3 := CHr.wr W3 sf2 CH
  have CH3 := CQ3.1
  have CR3 := CR0.trans CQ3
  have hk := Nat.le_trans hk (Nat.le_of_eq W3.size.symm)
  have Z3 : n0 ≤ h3.size := Nat.le_trans Z0 (Nat.le_of_eq W3.size.symm)
  have B3 : Ext hB h3 := own_ext_wr B0 W3 gb_o0
  have E_o0_3 : Exa Z h3 o0 oNT := E_o0.wr W3
  have Kz3 : Keep h0 h3 [o0] := (Keep.refl h0 [o0]).wr W3 (Or.inl (List.mem_of_getElem? (i := 0) rfl))
  have N3 := Fr.snoc X3 N0 g_o0
  refine Goes.go st3 ?_
  show Goes p e below _ (T3.setTop (mkF m 9 #[.val (.ref o0), .val (.ref wE), .val v2, .val v3, .val .null, .val .null, .unset] []))
  refine Goes.go (fun t => XS.aloadN X3.here hx rfl (hb hby dFE_9) rfl rfl ) ?_
  refine Goes.go (fun t => XS.aloadN X3.here hx rfl (hb hby dFE_10) rfl (by assumption) ) ?_
  show Goes p e below _ (T3.setTop (mkF m 11 #[.val (.ref o0), .val (.ref wE), .val v2, .val v3, .val .null, .val .null, .unset] [v2, (.ref o0)]))
  have sf4 : Safe Z own_EL s.vm h3 o0 := (Safe.exa hZ.alike E_o0_3 (by decide) (by decide))
  obtain ⟨T5, h5, X5, e5, W5, st5⟩ := putF X3 hx hZ hown (host := "") (Or.inl (own_h hw 60 rfl)) Via.refl e3 F_namespaceUri_o0_3 E_o0_3 (Or.inr ⟨(own_h hw 61 rfl), rfl, hnm⟩) (own_h hw 49 rfl) (ty := (.object "java/lang/String")) (by decide) own_narrow (own_fits (by assumption)) (g := (mkF m 11 #[.val (.ref o0), .val (.ref wE), .val v2, .val v3, .val .null, .val .null, .unset] [v2, (.ref o0)])) rfl rfl (hb hby dFE_11)
  have F_kind_o0_5 : Fld Z h5 o0 oNT "kind" "Lcom/example/thames/thames/model/NodeKind;" (.ref wE) := F_kind_o0_3.other W5 (Or.inr (slot_ne (Or.inr (own_h hw 59 rfl)) (Or.inr (own_h hw 61 rfl)) (by decide) (t := (.object oNK)) (t' := (.object "java/lang/String")) (by decide) (by decide)))
  have F_namespaceUri_o0_5 : Fld Z h5 o0 oNT "namespaceUri" "Ljava/lang/String;" v2 := F_namespaceUri_o0_3.same W5
  have F_localName_o0_5 : Fld Z h5 o0 oNT "localName" "Ljava/lang/String;" .null := F_localName_o0_3.other W5 (Or.inr (slot_ne (Or.inr (own_h hw 63 rfl)) (Or.inr (own_h hw 61 rfl)) (by decide) (t := (.object "java/lang/String")) (t' := (.object "java/lang/String")) (by decide) (by decide)))
  have F_type_o0_5 : Fld Z h5 o0 oNT "type" "Lcom/example/thames/thames/model/SchemaType;" .null := F_type_o0_3.other W5 (Or.inr (slot_ne (Or.inr (own_h hw 65 rfl)) (Or.inr (own_h hw 61 rfl)) (by decide) (t := (.object "com/example/thames/thames/model/SchemaType")) (t' := (.object "java/lang/String")) (by decide) (by decide)))
  have F_elementTest_o0_5 : Fld Z h5 o0 oNT "elementTest" "Lcom/example/thames/thames/engine/NodeTest;" .null := F_elementTest_o0_3.other W5 (Or.inr (slot_ne (Or.inr (own_h hw 67 rfl)) (Or.inr (own_h hw 61 rfl)) (by decide) (t := (.object oNT)) (t' := (.object "java/lang/String")) (by decide) (by decide)))
  have F_elementQuery_o0_5 : Fld Z h5 o0 oNT "elementQuery" "Lcom/example/thames/thames/model/ElementQuery;" .null := F_elementQuery_o0_3.other W5 (Or.inr (slot_ne (Or.inr (own_h hw 75 rfl)) (Or.inr (own_h hw 61 rfl)) (by decide) (t := (.object oEQ)) (t' := (.object "java/lang/String")) (by decide) (by decide)))
  have CQ5 := CHr.wr W5 sf4 CH3
  have CH5 := CQ5.1
  have CR5 := CR3.trans CQ5
  have hk := Nat.le_trans hk (Nat.le_of_eq W5.size.symm)
  have Z5 : n0 ≤ h5.size := Nat.le_trans Z3 (Nat.le_of_eq W5.size.symm)
  have B5 : Ext hB h5 := own_ext_wr B3 W5 gb_o0
  have E_o0_5 : Exa Z h5 o0 oNT := E_o0_3.wr W5
  have Kz5 : Keep h0 h5 [o0] := Kz3.wr W5 (Or.inl (List.mem_of_getElem? (i := 0) rfl))
  have N5 := Fr.snoc X5 N3 g_o0
  refine Goes.go st5 ?_
  show Goes p e below _ (T5.setTop (mkF m 14 #[.val (.ref o0), .val (.ref wE), .val v2, .val v3, .val .null, .val .null, .unset] []))
  refine Goes.go (fun t => XS.aloadN X5.here hx rfl (hb hby dFE_14) rfl rfl ) ?_
  refine Goes.go (fun t => XS.aloadN X5.here hx rfl (hb hby dFE_15) rfl (by assumption) ) ?_
  show Goes p e below _ (T5.setTop (mkF m 16 #[.val (.ref o0), .val (.ref wE), .val v2, .val v3, .val .null, .val .null, .unset] [v3, (.ref o0)]))
  have sf6 : Safe Z own_EL s.vm h5 o0 := (Safe.exa hZ.alike E_o0_5 (by decide) (by decide))
  obtain ⟨T7, h7, X7, e7, W7, st7⟩ := putF X5 hx hZ hown (host := "") (Or.inl (own_h hw 62 rfl)) Via.refl e5 F_localName_o0_5 E_o0_5 (Or.inr ⟨(own_h hw 63 rfl), rfl, hnm⟩) (own_h hw 49 rfl) (ty := (.object "java/lang/String")) (by decide) own_narrow (own_fits (by assumption)) (g := (mkF m 16 #[.val (.ref o0), .val (.ref wE), .val v2, .val v3, .val .null, .val .null, .unset] [v3, (.ref o0)])) rfl rfl (hb hby dFE_16)
  have F_kind_o0_7 : Fld Z h7 o0 oNT "kind" "Lcom/example/thames/thames/model/NodeKind;" (.ref wE) := F_kind_o0_5.other W7 (Or.inr (slot_ne (Or.inr (own_h hw 59 rfl)) (Or.inr (own_h hw 63 rfl)) (by decide) (t := (.object oNK)) (t' := (.object "java/lang/String")) (by decide) (by decide)))
  have F_namespaceUri_o0_7 : Fld Z h7 o0 oNT "namespaceUri" "Ljava/lang/String;" v2 := F_namespaceUri_o0_5.other W7 (Or.inr (slot_ne (Or.inr (own_h hw 61 rfl)) (Or.inr (own_h hw 63 rfl)) (by decide) (t := (.object "java/lang/String")) (t' := (.object "java/lang/String")) (by decide) (by decide)))
  have F_localName_o0_7 : Fld Z h7 o0 oNT "localName" "Ljava/lang/String;" v3 := F_localName_o0_5.same W7
  have F_type_o0_7 : Fld Z h7 o0 oNT "type" "Lcom/example/thames/thames/model/SchemaType;" .null := F_type_o0_5.other W7 (Or.inr (slot_ne (Or.inr (own_h hw 65 rfl)) (Or.inr (own_h hw 63 rfl)) (by decide) (t := (.object "com/example/thames/thames/model/SchemaType")) (t' := (.object "java/lang/String")) (by decide) (by decide)))
  have F_elementTest_o0_7 : Fld Z h7 o0 oNT "elementTest" "Lcom/example/thames/thames/engine/NodeTest;" .null := F_elementTest_o0_5.other W7 (Or.inr (slot_ne (Or.inr (own_h hw 67 rfl)) (Or.inr (own_h hw 63 rfl)) (by decide) (t := (.object oNT)) (t' := (.object "java/lang/String")) (by decide) (by decide)))
  have F_elementQuery_o0_7 : Fld Z h7 o0 oNT "elementQuery" "Lcom/example/thames/thames/model/ElementQuery;" .null := F_elementQuery_o0_5.other W7 (Or.inr (slot_ne (Or.inr (own_h hw 75 rfl)) (Or.inr (own_h hw 63 rfl)) (by decide) (t := (.object oEQ)) (t' := (.object "java/lang/String")) (by decide) (by decide)))
  have CQ7 := CHr.wr W7 sf6 CH5
  have CH7 := CQ7.1
  have CR7 := CR5.trans CQ7
  have hk := Nat.le_trans hk (Nat.le_of_eq W7.size.symm)
  have Z7 : n0 ≤ h7.size := Nat.le_trans Z5 (Nat.le_of_eq W7.size.symm)
  have B7 : Ext hB h7 := own_ext_wr B5 W7 gb_o0
  have E_o0_7 : Exa Z h7 o0 oNT := E_o0_5.wr W7
  have Kz7 : Keep h0 h7 [o0] := Kz5.wr W7 (Or.inl (List.mem_of_getElem? (i := 0) rfl))
  have N7 := Fr.snoc X7 N5 g_o0
  refine Goes.go st7 ?_
  show Goes p e below _ (T7.setTop (mkF m 19 #[.val (.ref o0), .val (.ref wE), .val v2, .val v3, .val .null, .val .null, .unset] []))
  refine Goes.go (fun t => XS.aloadN X7.here hx rfl (hb hby dFE_19) rfl rfl ) ?_
  refine Goes.go (fun t => XS.aload X7.here hx rfl (hb hby dFE_20) rfl rfl ) ?_
  show Goes p e below _ (T7.setTop (mkF m 22 #[.val (.ref o0), .val (.ref wE), .val v2, .val v3, .val .null, .val .null, .unset] [.null, (.ref o0)]))
  have sf8 : Safe Z own_EL s.vm h7 o0 := (Safe.exa hZ.alike E_o0_7 (by decide) (by decide))
  obtain ⟨T9, h9, X9, e9, W9, st9⟩ := putF X7 hx hZ hown (host := "") (Or.inl (own_h hw 64 rfl)) Via.refl e7 F_type_o0_7 E_o0_7 (Or.inr ⟨(own_h hw 65 rfl), rfl, hnm⟩) (own_h hw 49 rfl) (ty := (.object "com/example/thames/thames/model/SchemaType")) (by decide) rfl rfl (g := (mkF m 22 #[.val (.ref o0), .val (.ref wE), .val v2, .val v3, .val .null, .val .null, .unset] [.null, (.ref o0)])) rfl rfl (hb hby dFE_22)
  have F_kind_o0_9 : Fld Z h9 o0 oNT "kind" "Lcom/example/thames/thames/model/NodeKind;" (.ref wE) := F_kind_o0_7.other W9 (Or.inr (slot_ne (Or.inr (own_h hw 59 rfl)) (Or.inr (own_h hw 65 rfl)) (by decide) (t := (.object oNK)) (t' := (.object "com/example/thames/thames/model/SchemaType")) (by decide) (by decide)))
  have F_namespaceUri_o0_9 : Fld Z h9 o0 oNT "namespaceUri" "Ljava/lang/String;" v2 := F_namespaceUri_o0_7.other W9 (Or.inr (slot_ne (Or.inr (own_h hw 61 rfl)) (Or.inr (own_h hw 65 rfl)) (by decide) (t := (.object "java/lang/String")) (t' := (.object "com/example/thames/thames/model/SchemaType")) (by decide) (by decide)))
  have F_localName_o0_9 : Fld Z h9 o0 oNT "localName" "Ljava/lang/String;" v3 := F_localName_o0_7.other W9 (Or.inr (slot_ne (Or.inr (own_h hw 63 rfl)) (Or.inr (own_h hw 65 rfl)) (by decide) (t := (.object "java/lang/String")) (t' := (.object "com/example/thames/thames/model/SchemaType")) (by decide) (by decide)))
  have F_type_o0_9 : Fld Z h9 o0 oNT "type" "Lcom/example/thames/thames/model/SchemaType;" .null := F_type_o0_7.same W9
  have F_elementTest_o0_9 : Fld Z h9 o0 oNT "elementTest" "Lcom/example/thames/thames/engine/NodeTest;" .null := F_elementTest_o0_7.other W9 (Or.inr (slot_ne (Or.inr (own_h hw 67 rfl)) (Or.inr (own_h hw 65 rfl)) (by decide) (t := (.object oNT)) (t' := (.object "com/example/thames/thames/model/SchemaType")) (by decide) (by decide)))
  have F_elementQuery_o0_9 : Fld Z h9 o0 oNT "elementQuery" "Lcom/example/thames/thames/model/ElementQuery;" .null := F_elementQuery_o0_7.other W9 (Or.inr (slot_ne (Or.inr (own_h hw 75 rfl)) (Or.inr (own_h hw 65 rfl)) (by decide) (t := (.object oEQ)) (t' := (.object "com/example/thames/thames/model/SchemaType")) (by decide) (by decide)))
  have CQ9 := CHr.wr W9 sf8 CH7
  have CH9 := CQ9.1
  have CR9 := CR7.trans CQ9
  have hk := Nat.le_trans hk (Nat.le_of_eq W9.size.symm)
  have Z9 : n0 ≤ h9.size := Nat.le_trans Z7 (Nat.le_of_eq W9.size.symm)
  have B9 : Ext hB h9 := own_ext_wr B7 W9 gb_o0
  have E_o0_9 : Exa Z h9 o0 oNT := E_o0_7.wr W9
  have Kz9 : Keep h0 h9 [o0] := Kz7.wr W9 (Or.inl (List.mem_of_getElem? (i := 0) rfl))
  have N9 := Fr.snoc X9 N7 g_o0
  refine Goes.go st9 ?_
  show Goes p e below _ (T9.setTop (mkF m 25 #[.val (.ref o0), .val (.ref wE), .val v2, .val v3, .val .null, .val .null, .unset] []))
  refine Goes.go (fun t => XS.aloadN X9.here hx rfl (hb hby dFE_25) rfl rfl ) ?_
  refine Goes.go (fun t => XS.aload X9.here hx rfl (hb hby dFE_26) rfl rfl ) ?_
  show Goes p e below _ (T9.setTop (mkF m 28 #[.val (.ref o0), .val (.ref wE), .val v2, .val v3, .val .null, .val .null, .unset] [.null, (.ref o0)]))
  have sf10 : Safe Z own_EL s.vm h9 o0 := (Safe.exa hZ.alike E_o0_9 (by decide) (by decide))
  obtain ⟨T11, h11, X11, e11, W11, st11⟩ := putF X9 hx hZ hown (host := "") (Or.inl (own_h hw 66 rfl)) Via.refl e9 F_elementTest_o0_9 E_o0_9 (Or.inr ⟨(own_h hw 67 rfl), rfl, hnm⟩) (own_h hw 49 rfl) (ty := (.object oNT)) (by decide) rfl rfl (g := (mkF m 28 #[.val (.ref o0), .val (.ref wE), .val v2, .val v3, .val .null, .val .null, .unset] [.null, (.ref o0)])) rfl rfl (hb hby dFE_28)
  have F_kind_o0_11 : Fld Z h11 o0 oNT "kind" "Lcom/example/thames/thames/model/NodeKind;" (.ref wE) := F_kind_o0_9.other W11 (Or.inr (slot_ne (Or.inr (own_h hw 59 rfl)) (Or.inr (own_h hw 67 rfl)) (by decide) (t := (.object oNK)) (t' := (.object oNT)) (by decide) (by decide)))
  have F_namespaceUri_o0_11 : Fld Z h11 o0 oNT "namespaceUri" "Ljava/lang/String;" v2 := F_namespaceUri_o0_9.other W11 (Or.inr (slot_ne (Or.inr (own_h hw 61 rfl)) (Or.inr (own_h hw 67 rfl)) (by decide) (t := (.object "java/lang/String")) (t' := (.object oNT)) (by decide) (by decide)))
  have F_localName_o0_11 : Fld Z h11 o0 oNT "localName" "Ljava/lang/String;" v3 := F_localName_o0_9.other W11 (Or.inr (slot_ne (Or.inr (own_h hw 63 rfl)) (Or.inr (own_h hw 67 rfl)) (by decide) (t := (.object "java/lang/String")) (t' := (.object oNT)) (by decide) (by decide)))
  have F_type_o0_11 : Fld Z h11 o0 oNT "type" "Lcom/example/thames/thames/model/SchemaType;" .null := F_type_o0_9.other W11 (Or.inr (slot_ne (Or.inr (own_h hw 65 rfl)) (Or.inr (own_h hw 67 rfl)) (by decide) (t := (.object "com/example/thames/thames/model/SchemaType")) (t' := (.object oNT)) (by decide) (by decide)))
  have F_elementTest_o0_11 : Fld Z h11 o0 oNT "elementTest" "Lcom/example/thames/thames/engine/NodeTest;" .null := F_elementTest_o0_9.same W11
  have F_elementQuery_o0_11 : Fld Z h11 o0 oNT "elementQuery" "Lcom/example/thames/thames/model/ElementQuery;" .null := F_elementQuery_o0_9.other W11 (Or.inr (slot_ne (Or.inr (own_h hw 75 rfl)) (Or.inr (own_h hw 67 rfl)) (by decide) (t := (.object oEQ)) (t' := (.object oNT)) (by decide) (by decide)))
  have CQ11 := CHr.wr W11 sf10 CH9
  have CH11 := CQ11.1
  have CR11 := CR9.trans CQ11
  have hk := Nat.le_trans hk (Nat.le_of_eq W11.size.symm)
  have Z11 : n0 ≤ h11.size := Nat.le_trans Z9 (Nat.le_of_eq W11.size.symm)
  have B11 : Ext hB h11 := own_ext_wr B9 W11 gb_o0
  have E_o0_11 : Exa Z h11 o0 oNT := E_o0_9.wr W11
  have Kz11 : Keep h0 h11 [o0] := Kz9.wr W11 (Or.inl (List.mem_of_getElem? (i := 0) rfl))
  have N11 := Fr.snoc X11 N9 g_o0
  refine Goes.go st11 ?_
  show Goes p e below _ (T11.setTop (mkF m 31 #[.val (.ref o0), .val (.ref wE), .val v2, .val v3, .val .null, .val .null, .unset] []))
  refine Goes.go (fun t => XS.aconstNull X11.here hx rfl (hb hby dFE_31)) ?_
  refine Goes.go (fun t => XS.astore X11.here hx rfl (hb hby dFE_32) rfl rfl (l' := #[.val (.ref o0), .val (.ref wE), .val v2, .val v3, .val .null, .val .null, .val .null]) rfl) ?_
  refine Goes.go (fun t => XS.aloadN X11.here hx rfl (hb hby dFE_34) rfl rfl ) ?_
  show Goes p e below _ (T11.setTop (mkF m 35 #[.val (.ref o0), .val (.ref wE), .val v2, .val v3, .val .null, .val .null, .val .null] [(.ref o0)]))
  obtain ⟨cq12, q12, q12'⟩ := E_o0_11.cell
  obtain ⟨_, _, ⟨T12, L12, k12, n12⟩, -, X12, ⟨Lc12, hQ12, l12, y12, z12⟩, st12⟩ := X11.privateBack hx (y := (⟨oNT, "testsElementNameAlone", "()Z"⟩ : MethodName)) hown (mvT hZ (own_h hw 68 rfl)) (mvT hZ (own_h hw 69 rfl)) (own_selects (by decide) (mvT hZ (own_h hw 49 rfl)) (mvT hZ (own_h hw 69 rfl)) (mvP hZ (own_h hw 70 rfl))) (Cond.privateMethod_at (mvP hZ (own_h hw 70 rfl) (args := #[]))) (mvT hZ (own_h hw 71 rfl)) (by decide) (backOf (W := 0) (rmTE l Z a0 hw [] o0 wE h11 n0 Z11 F_kind_o0_11 F_type_o0_11 F_elementTest_o0_11 (S_E.ext B11)) hZ (own_h hw 71 rfl) (own_h hw 50 rfl) (by decide) (by decide)) (g := (mkF m 35 #[.val (.ref o0), .val (.ref wE), .val v2, .val v3, .val .null, .val .null, .val .null] [(.ref o0)])) rfl (by rw [hml]; rfl) (Steps.refl _) (a := o0) (by rw [e11]; exact q12) q12' (argsL := []) (rest := []) (lenOf pdFE_0 rfl) rfl (by show 2 * 0 + _ ≤ _; exact Nat.le_of_eq rfl) (hb hby dFE_35) (fun _ _ => ⟨rfl, e11, (by decide : 0 + 0 ≤ _), (by decide : 0 + 0 ≤ _)⟩)
  dsimp only [Pt.U, Pt.locs, Pt.cells, Pt.slots] at X12 l12 y12 z12 st12 hQ12
  subst l12 y12 z12
  obtain ⟨rfl, N12q, e12q⟩ := hQ12
  have N12 := Fr.app N11 N12q
  refine Goes.via st12 ?_
  show Goes p e below _ (T12.setTop (mkF m 38 #[.val (.ref o0), .val (.ref wE), .val v2, .val v3, .val .null, .val .null, .val .null] [(.int (1 : Int32))]))
  refine Goes.go (fun t => XS.ifNo X12.here hx rfl (hb hby dFE_38) rfl (Jvm.Free.XT.i0_eq_f (by decide))) ?_
  show Goes p e below _ (T12.setTop (mkF m 41 #[.val (.ref o0), .val (.ref wE), .val v2, .val v3, .val .null, .val .null, .val .null] []))
  refine Goes.go (fun t => XS.aloadN X12.here hx rfl (hb hby dFE_41) rfl (by assumption) ) ?_
  refine Goes.go (fun t => XS.aloadN X12.here hx rfl (hb hby dFE_42) rfl (by assumption) ) ?_
  show Goes p e below _ (T12.setTop (mkF m 43 #[.val (.ref o0), .val (.ref wE), .val v2, .val v3, .val .null, .val .null, .val .null] [v3, v2]))
  obtain ⟨_, _, ⟨T13, L13, k13, n13⟩, -, X13, hS13, hg13, ⟨Lc13, hQ13, l13, y13, z13, CQ13⟩, st13⟩ := callSS X12 hx (y := (⟨oEQ, "named", "(Ljava/lang/String;Ljava/lang/String;)Lcom/example/thames/thames/model/ElementQuery;"⟩ : MethodName)) hown (mvT hZ (own_h hw 95 rfl)) (mvT hZ (own_h hw 96 rfl)) (mvT hZ (own_h hw 97 rfl)) (mvT hZ (own_h hw 98 rfl)) (by decide) (backOfSH (s := s) (vm0 := s.vm) (W := 0) (rmNM l Z a0 hw [] v2 v3 z fm wS wN cS cN h11 n0 Z11 (V.ext B11) (hv2.ext B11) (hv3.ext B11)) hZ (own_h hw 98 rfl) (own_h hw 97 rfl) (by decide) (by decide) (own_ew hw) CH11) (g := (mkF m 43 #[.val (.ref o0), .val (.ref wE), .val v2, .val v3, .val .null, .val .null, .val .null] [v3, v2])) rfl (by rw [hml]; rfl) (argsL := [v2, v3]) (rest := []) (lenOf pdFE_1 rfl) rfl (by show 2 * 0 + _ ≤ _; exact Nat.le_of_eq rfl) (hb hby dFE_43) (fun _ _ => ⟨rfl, e12q, (by decide : 0 + 14 ≤ _), (by decide : 0 + 277 ≤ _)⟩)
  dsimp only [Pt.U, Pt.locs, Pt.cells, Pt.slots] at X13 hS13 hg13 l13 y13 z13 st13 hQ13 CQ13
  subst l13 y13 z13
  obtain ⟨q, rfl, N13q, E13⟩ := hQ13
  have N13 := Fr.app N12 N13q
  obtain ⟨X13, hS, hZ, hown⟩ := rebS (n1 := T12.heap.size) hS (by rw [e12q]; exact hk) X13 hS13 hg13 hZ hown
  have hk : T13.heap.size ≤ T13.heap.size := Nat.le_refl _
  have CH13 := CQ13.1
  have CR13 := CR11.trans CQ13
  refine Goes.via st13 ?_
  have Z13 : n0 ≤ T13.heap.size := Nat.le_trans Z11 E13.1
  have B13 : Ext hB T13.heap := own_ext_trans B11 E13
  have E_o0_13 : Exa Z T13.heap o0 oNT := E_o0_11.ext E13
  have F_kind_o0_13 : Fld Z T13.heap o0 oNT "kind" "Lcom/example/thames/thames/model/NodeKind;" (.ref wE) := F_kind_o0_11.ext E13
  have F_namespaceUri_o0_13 : Fld Z T13.heap o0 oNT "namespaceUri" "Ljava/lang/String;" v2 := F_namespaceUri_o0_11.ext E13
  have F_localName_o0_13 : Fld Z T13.heap o0 oNT "localName" "Ljava/lang/String;" v3 := F_localName_o0_11.ext E13
  have F_type_o0_13 : Fld Z T13.heap o0 oNT "type" "Lcom/example/thames/thames/model/SchemaType;" .null := F_type_o0_11.ext E13
  have F_elementTest_o0_13 : Fld Z T13.heap o0 oNT "elementTest" "Lcom/example/thames/thames/engine/NodeTest;" .null := F_elementTest_o0_11.ext E13
  have F_elementQuery_o0_13 : Fld Z T13.heap o0 oNT "elementQuery" "Lcom/example/thames/thames/model/ElementQuery;" .null := F_elementQuery_o0_11.ext E13
  have Kz13 : Keep h0 T13.heap [o0] := Kz11.ext E13
  show Goes p e below _ (T13.setTop (mkF m 46 #[.val (.ref o0), .val (.ref wE), .val v2, .val v3, .val .null, .val .null, .val .null] [(.ref q)]))
  refine Goes.go (fun t => XS.astore X13.here hx rfl (hb hby dFE_46) rfl rfl (l' := #[.val (.ref o0), .val (.ref wE), .val v2, .val v3, .val .null, .val .null, .val (.ref q)]) rfl) ?_
  refine Goes.go (fun t => XS.aloadN X13.here hx rfl (hb hby dFE_48) rfl rfl ) ?_
  refine Goes.go (fun t => XS.aload X13.here hx rfl (hb hby dFE_49) rfl rfl ) ?_
  show Goes p e below _ (T13.setTop (mkF m 51 #[.val (.ref o0), .val (.ref wE), .val v2, .val v3, .val .null, .val .null, .val (.ref q)] [(.ref q), (.ref o0)]))
  have sf14 : Safe Z own_EL T13.vm T13.heap o0 := (Safe.exa hZ.alike E_o0_13 (by decide) (by decide))
  obtain ⟨T15, h15, X15, e15, W15, st15⟩ := putF X13 hx hZ hown (host := "") (Or.inl (own_h hw 74 rfl)) Via.refl rfl F_elementQuery_o0_13 E_o0_13 (Or.inr ⟨(own_h hw 75 rfl), rfl, hnm⟩) (own_h hw 49 rfl) (ty := (.object oEQ)) (by decide) rfl rfl (g := (mkF m 51 #[.val (.ref o0), .val (.ref wE), .val v2, .val v3, .val .null, .val .null, .val (.ref q)] [(.ref q), (.ref o0)])) rfl rfl (hb hby dFE_51)
  have F_kind_o0_15 : Fld Z h15 o0 oNT "kind" "Lcom/example/thames/thames/model/NodeKind;" (.ref wE) := F_kind_o0_13.other W15 (Or.inr (slot_ne (Or.inr (own_h hw 59 rfl)) (Or.inr (own_h hw 75 rfl)) (by decide) (t := (.object oNK)) (t' := (.object oEQ)) (by decide) (by decide)))
  have F_namespaceUri_o0_15 : Fld Z h15 o0 oNT "namespaceUri" "Ljava/lang/String;" v2 := F_namespaceUri_o0_13.other W15 (Or.inr (slot_ne (Or.inr (own_h hw 61 rfl)) (Or.inr (own_h hw 75 rfl)) (by decide) (t := (.object "java/lang/String")) (t' := (.object oEQ)) (by decide) (by decide)))
  have F_localName_o0_15 : Fld Z h15 o0 oNT "localName" "Ljava/lang/String;" v3 := F_localName_o0_13.other W15 (Or.inr (slot_ne (Or.inr (own_h hw 63 rfl)) (Or.inr (own_h hw 75 rfl)) (by decide) (t := (.object "java/lang/String")) (t' := (.object oEQ)) (by decide) (by decide)))
  have F_type_o0_15 : Fld Z h15 o0 oNT "type" "Lcom/example/thames/thames/model/SchemaType;" .null := F_type_o0_13.other W15 (Or.inr (slot_ne (Or.inr (own_h hw 65 rfl)) (Or.inr (own_h hw 75 rfl)) (by decide) (t := (.object "com/example/thames/thames/model/SchemaType")) (t' := (.object oEQ)) (by decide) (by decide)))
  have F_elementTest_o0_15 : Fld Z h15 o0 oNT "elementTest" "Lcom/example/thames/thames/engine/NodeTest;" .null := F_elementTest_o0_13.other W15 (Or.inr (slot_ne (Or.inr (own_h hw 67 rfl)) (Or.inr (own_h hw 75 rfl)) (by decide) (t := (.object oNT)) (t' := (.object oEQ)) (by decide) (by decide)))
  have F_elementQuery_o0_15 : Fld Z h15 o0 oNT "elementQuery" "Lcom/example/thames/thames/model/ElementQuery;" (.ref q) := F_elementQuery_o0_13.same W15
  have CQ15 := CHr.wr W15 sf14 CH13
  have CH15 := CQ15.1
  have CR15 := CR13.trans CQ15
  have hk := Nat.le_trans hk (Nat.le_of_eq W15.size.symm)
  have Z15 : n0 ≤ h15.size := Nat.le_trans Z13 (Nat.le_of_eq W15.size.symm)
  have B15 : Ext hB h15 := own_ext_wr B13 W15 gb_o0
  have E_o0_15 : Exa Z h15 o0 oNT := E_o0_13.wr W15
  have Kz15 : Keep h0 h15 [o0] := Kz13.wr W15 (Or.inl (List.mem_of_getElem? (i := 0) rfl))
  have N15 := Fr.snoc X15 N13 g_o0
  refine Goes.go st15 ?_
  show Goes p e below _ (T15.setTop (mkF m 54 #[.val (.ref o0), .val (.ref wE), .val v2, .val v3, .val .null, .val .null, .val (.ref q)] []))
  exact Goes.outW X15 hS (by rw [e15]; exact hk) (fun _ => rfl) Bd.notSynchronized (fun fs hr => X15.returnOut hx Bd.returns (hb hby dFE_54) hr) (by rw [e15]; exact ⟨rfl, N15, Kz15, F_kind_o0_15, q, F_elementQuery_o0_15⟩) (by rw [hh, e15]; exact CR15.trans (CHv.at X15 hZ (own_ew hw) CH15)) (by decide) (by decide)
theorem dFN_0 : decode prog_106_method_2_code 0 = .ok (.aload_n 0, 1) := by decide +kernel
theorem dFN_1 : decode prog_106_method_2_code 1 = .ok (.invokespecial 7, 3) := by decide +kernel
theorem dFN_4 : decode prog_106_method_2_code 4 = .ok (.aload_n 0, 1) := by decide +kernel
theorem dFN_5 : decode prog_106_method_2_code 5 = .ok (.aload_n 1, 1) := by decide +kernel
theorem dFN_6 : decode prog_106_method_2_code 6 = .ok (.putfield 12, 3) := by decide +kernel
theorem dFN_9 : decode prog_106_method_2_code 9 = .ok (.aload_n 0, 1) := by decide +kernel
theorem dFN_10 : decode prog_106_method_2_code 10 = .ok (.aload_n 2, 1) := by decide +kernel
theorem dFN_11 : decode prog_106_method_2_code 11 = .ok (.putfield 16, 3) := by decide +kernel
theorem dFN_14 : decode prog_106_method_2_code 14 = .ok (.aload_n 0, 1) := by decide +kernel
theorem dFN_15 : decode prog_106_method_2_code 15 = .ok (.aload_n 3, 1) := by decide +kernel
theorem dFN_16 : decode prog_106_method_2_code 16 = .ok (.putfield 20, 3) := by decide +kernel
theorem dFN_19 : decode prog_106_method_2_code 19 = .ok (.aload_n 0, 1) := by decide +kernel
theorem dFN_20 : decode prog_106_method_2_code 20 = .ok (.aload 4, 2) := by decide +kernel
theorem dFN_22 : decode prog_106_method_2_code 22 = .ok (.putfield 23, 3) := by decide +kernel
theorem dFN_25 : decode prog_106_method_2_code 25 = .ok (.aload_n 0, 1) := by decide +kernel
theorem dFN_26 : decode prog_106_method_2_code 26 = .ok (.aload 5, 2) := by decide +kernel
theorem dFN_28 : decode prog_106_method_2_code 28 = .ok (.putfield 27, 3) := by decide +kernel
theorem dFN_31 : decode prog_106_method_2_code 31 = .ok (.aconst_null, 1) := by decide +kernel
theorem dFN_32 : decode prog_106_method_2_code 32 = .ok (.astore 6, 2) := by decide +kernel
theorem dFN_34 : decode prog_106_method_2_code 34 = .ok (.aload_n 0, 1) := by decide +kernel
theorem dFN_35 : decode prog_106_method_2_code 35 = .ok (.invokevirtual 31, 3) := by decide +kernel
theorem dFN_38 : decode prog_106_method_2_code 38 = .ok (.ifCond .eq 10, 3) := by decide +kernel
theorem dFN_48 : decode prog_106_method_2_code 48 = .ok (.aload_n 0, 1) := by decide +kernel
theorem dFN_49 : decode prog_106_method_2_code 49 = .ok (.aload 6, 2) := by decide +kernel
theorem dFN_51 : decode prog_106_method_2_code 51 = .ok (.putfield 41, 3) := by decide +kernel
theorem dFN_54 : decode prog_106_method_2_code 54 = .ok (.return_, 1) := by decide +kernel
theorem pn_FN : plainName oNT = true := by first | (simp [plainName, overriddenIn]; done) | decide +kernel
theorem pdFN_0 : parseMethodDescriptor "()Z" = some ⟨[], some .boolean⟩ := by decide +kernel
theorem ef_FN (m : MethodId) (o0 : Addr) (v2 : Value) (v3 : Value) (r_v2 : v2.isRef = true) (r_v3 : v3.isRef = true) : entryFrame m #[(.ref o0), .null, v2, v3, .null, .null] 7 = mkF m 0 #[.val (.ref o0), .val .null, .val v2, .val v3, .val .null, .val .null, .unset] [] := by rcases ref_cases r_v2 with rfl | ⟨_, rfl⟩ <;> rcases ref_cases r_v3 with rfl | ⟨_, rfl⟩ <;> first | (simp [entryFrame, mkF, argsToLocals, Value.category]; done) | rfl
def QFN (Z : State) (o0 : Addr) (v2 : Value) (v3 : Value) (wE : Addr) (hB : Heap) (h0 : Heap) (n0 : Nat) (v : Option Value) (h : Heap) (L : List Loc) : Prop := v = none ∧ Fr n0 L ∧ Keep h0 h [o0] ∧ Fld Z h o0 oNT "kind" "Lcom/example/thames/thames/model/NodeKind;" .null ∧ Fld Z h o0 oNT "namespaceUri" "Ljava/lang/String;" v2 ∧ Fld Z h o0 oNT "localName" "Ljava/lang/String;" v3 ∧ Fld Z h o0 oNT "type" "Lcom/example/thames/thames/model/SchemaType;" .null ∧ Fld Z h o0 oNT "elementTest" "Lcom/example/thames/thames/engine/NodeTest;" .null ∧ Fld Z h o0 oNT "elementQuery" "Lcom/example/thames/thames/model/ElementQuery;" .null
set_option maxRecDepth 65536 in
set_option maxHeartbeats 40000000 in
theorem rmFN (l : Launch) (Z : State) (a0 : Array Value) (hw : ∀ d ∈ tables_1, d.before a0 Z = true) (ws : List Jvm.Cond) (o0 : Addr) (v2 : Value) (v3 : Value) (wE : Addr) (hB : Heap) (h0 : Heap) (n0 : Nat) (Z0 : n0 ≤ h0.size) (r_v2 : v2.isRef = true) (r_v3 : v3.isRef = true) (B0 : Ext hB h0) (gb_o0 : hB.size ≤ o0) (g_o0 : n0 ≤ o0) (S_E : Sta Z hB oNK "ELEMENT" "Lcom/example/thames/thames/model/NodeKind;" (.ref wE)) (E_o0 : Exa Z h0 o0 oNT) (F_kind : Fld Z h0 o0 oNT "kind" "Lcom/example/thames/thames/model/NodeKind;" .null) (F_namespaceUri : Fld Z h0 o0 oNT "namespaceUri" "Ljava/lang/String;" .null) (F_localName : Fld Z h0 o0 oNT "localName" "Ljava/lang/String;" .null) (F_type : Fld Z h0 o0 oNT "type" "Lcom/example/thames/thames/model/SchemaType;" .null) (F_elementTest : Fld Z h0 o0 oNT "elementTest" "Lcom/example/thames/thames/engine/NodeTest;" .null) (F_elementQuery : Fld Z h0 o0 oNT "elementQuery" "Lcom/example/thames/thames/model/ElementQuery;" .null) :
    MetFree l (⟨oNT, "<init>", "(Lcom/example/thames/thames/model/NodeKind;Ljava/lang/String;Ljava/lang/String;Lcom/example/thames/thames/model/SchemaType;Lcom/example/thames/thames/engine/NodeTest;)V"⟩ : MethodName) (head1 (Jvm.Cond.code (⟨oNT, "<init>", "(Lcom/example/thames/thames/model/NodeKind;Ljava/lang/String;Ljava/lang/String;Lcom/example/thames/thames/model/SchemaType;Lcom/example/thames/thames/engine/NodeTest;)V"⟩ : MethodName) prog_106_method_2_code 7 none :: ws) (oR 1 0 0 12)) (fun a U => a = #[(.ref o0), .null, v2, v3, .null, .null] ∧ Z.Warmed39 U.vm ∧ U.heap = h0) (fun _ _ _ _ _ => True) (fun _ U o U' => ∃ v L, o = .returned v ∧ QFN Z o0 v2 v3 wE hB h0 n0 v U'.heap L ∧ FrameEnd U o U' L (oR 1 0 0 12).cells (oR 1 0 0 12).slots) := by
  refine MetFree.of_bodySF (plainFor_of_name pn_FN) hisR ?_
  intro p e s m args below meth c s₁ Bd hml0 hP hK
  obtain ⟨rfl, hZ, hh⟩ := hP
  have hx := Bd.exec
  have hby := Bd.bytes
  have hml : c.maxLocals = 7 := hml0
  have hown : s.vm.findClass oNT = some m.cls := findClass_of_methodNamed Bd.named
  have hnm := (name_of_methodNamed Bd.named Bd.method).1
  have X0 : Stand p l e (oR 1 0 0 12) s m #[(.ref o0), .null, v2, v3, .null, .null] below meth c s₁ [] 0 0 := Stand.of_body Bd
  have e0 : s₁.heap = h0 := by rw [← hh, Bd.state]; rfl
  have N0 := Fr.nil n0
  show Goes p e below (fun o U' => ∃ v L, o = .returned v ∧ QFN Z o0 v2 v3 wE hB h0 n0 v U'.heap L ∧ FrameEnd s o U' L (oR 1 0 0 12).cells (oR 1 0 0 12).slots) _
  refine Goes.go (fun t k => castTop (ef_FN m o0 v2 v3 r_v2 r_v3) k) ?_
  show Goes p e below _ (s₁.setTop (mkF m 0 #[.val (.ref o0), .val .null, .val v2, .val v3, .val .null, .val .null, .unset] []))
  refine Goes.go (fun t => XS.aloadN X0.here hx rfl (hb hby dFN_0) rfl rfl ) ?_
  show Goes p e below _ (s₁.setTop (mkF m 1 #[.val (.ref o0), .val .null, .val v2, .val v3, .val .null, .val .null, .unset] [(.ref o0)]))
  obtain ⟨T1, X1, e1, st1⟩ := initO X0 hx hZ hown (own_h hw 57 rfl) (own_h hw 23 rfl) (own_h hw 24 rfl) e0 (g := (mkF m 1 #[.val (.ref o0), .val .null, .val v2, .val v3, .val .null, .val .null, .unset] [(.ref o0)])) rfl (by rw [hml]; rfl) rfl (hb hby dFN_1) (by decide) (W := 0) (by show 2 * 0 + _ ≤ _; exact Nat.le_of_eq rfl) (by decide)
  refine Goes.go st1 ?_
  show Goes p e below _ (T1.setTop (mkF m 4 #[.val (.ref o0), .val .null, .val v2, .val v3, .val .null, .val .null, .unset] []))
  refine Goes.go (fun t => XS.aloadN X1.here hx rfl (hb hby dFN_4) rfl rfl ) ?_
  refine Goes.go (fun t => XS.aloadN X1.here hx rfl (hb hby dFN_5) rfl rfl ) ?_
  show Goes p e below _ (T1.setTop (mkF m 6 #[.val (.ref o0), .val .null, .val v2, .val v3, .val .null, .val .null, .unset] [.null, (.ref o0)]))
  obtain ⟨T2, h2, X2, e2, W2, st2⟩ := putF X1 hx hZ hown (host := "") (Or.inl (own_h hw 58 rfl)) Via.refl e1 F_kind E_o0 (Or.inr ⟨(own_h hw 59 rfl), rfl, hnm⟩) (own_h hw 49 rfl) (ty := (.object oNK)) (by decide) rfl rfl (g := (mkF m 6 #[.val (.ref o0), .val .null, .val v2, .val v3, .val .null, .val .null, .unset] [.null, (.ref o0)])) rfl rfl (hb hby dFN_6)
  have F_kind_o0_2 : Fld Z h2 o0 oNT "kind" "Lcom/example/thames/thames/model/NodeKind;" .null := F_kind.same W2
  have F_namespaceUri_o0_2 : Fld Z h2 o0 oNT "namespaceUri" "Ljava/lang/String;" .null := F_namespaceUri.other W2 (Or.inr (slot_ne (Or.inr (own_h hw 61 rfl)) (Or.inr (own_h hw 59 rfl)) (by decide) (t := (.object "java/lang/String")) (t' := (.object oNK)) (by decide) (by decide)))
  have F_localName_o0_2 : Fld Z h2 o0 oNT "localName" "Ljava/lang/String;" .null := F_localName.other W2 (Or.inr (slot_ne (Or.inr (own_h hw 63 rfl)) (Or.inr (own_h hw 59 rfl)) (by decide) (t := (.object "java/lang/String")) (t' := (.object oNK)) (by decide) (by decide)))
  have F_type_o0_2 : Fld Z h2 o0 oNT "type" "Lcom/example/thames/thames/model/SchemaType;" .null := F_type.other W2 (Or.inr (slot_ne (Or.inr (own_h hw 65 rfl)) (Or.inr (own_h hw 59 rfl)) (by decide) (t := (.object "com/example/thames/thames/model/SchemaType")) (t' := (.object oNK)) (by decide) (by decide)))
  have F_elementTest_o0_2 : Fld Z h2 o0 oNT "elementTest" "Lcom/example/thames/thames/engine/NodeTest;" .null := F_elementTest.other W2 (Or.inr (slot_ne (Or.inr (own_h hw 67 rfl)) (Or.inr (own_h hw 59 rfl)) (by decide) (t := (.object oNT)) (t' := (.object oNK)) (by decide) (by decide)))
  have F_elementQuery_o0_2 : Fld Z h2 o0 oNT "elementQuery" "Lcom/example/thames/thames/model/ElementQuery;" .null := F_elementQuery.other W2 (Or.inr (slot_ne (Or.inr (own_h hw 75 rfl)) (Or.inr (own_h hw 59 rfl)) (by decide) (t := (.object oEQ)) (t' := (.object oNK)) (by decide) (by decide)))
  have Z2 : n0 ≤ h2.size := Nat.le_trans Z0 (Nat.le_of_eq W2.size.symm)
  have B2 : Ext hB h2 := own_ext_wr B0 W2 gb_o0
  have E_o0_2 : Exa Z h2 o0 oNT := E_o0.wr W2
  have Kz2 : Keep h0 h2 [o0] := (Keep.refl h0 [o0]).wr W2 (Or.inl (List.mem_of_getElem? (i := 0) rfl))
  have N2 := Fr.snoc X2 N0 g_o0
  refine Goes.go st2 ?_
  show Goes p e below _ (T2.setTop (mkF m 9 #[.val (.ref o0), .val .null, .val v2, .val v3, .val .null, .val .null, .unset] []))
  refine Goes.go (fun t => XS.aloadN X2.here hx rfl (hb hby dFN_9) rfl rfl ) ?_
  refine Goes.go (fun t => XS.aloadN X2.here hx rfl (hb hby dFN_10) rfl (by assumption) ) ?_
  show Goes p e below _ (T2.setTop (mkF m 11 #[.val (.ref o0), .val .null, .val v2, .val v3, .val .null, .val .null, .unset] [v2, (.ref o0)]))
  obtain ⟨T3, h3, X3, e3, W3, st3⟩ := putF X2 hx hZ hown (host := "") (Or.inl (own_h hw 60 rfl)) Via.refl e2 F_namespaceUri_o0_2 E_o0_2 (Or.inr ⟨(own_h hw 61 rfl), rfl, hnm⟩) (own_h hw 49 rfl) (ty := (.object "java/lang/String")) (by decide) own_narrow (own_fits (by assumption)) (g := (mkF m 11 #[.val (.ref o0), .val .null, .val v2, .val v3, .val .null, .val .null, .unset] [v2, (.ref o0)])) rfl rfl (hb hby dFN_11)
  have F_kind_o0_3 : Fld Z h3 o0 oNT "kind" "Lcom/example/thames/thames/model/NodeKind;" .null := F_kind_o0_2.other W3 (Or.inr (slot_ne (Or.inr (own_h hw 59 rfl)) (Or.inr (own_h hw 61 rfl)) (by decide) (t := (.object oNK)) (t' := (.object "java/lang/String")) (by decide) (by decide)))
  have F_namespaceUri_o0_3 : Fld Z h3 o0 oNT "namespaceUri" "Ljava/lang/String;" v2 := F_namespaceUri_o0_2.same W3
  have F_localName_o0_3 : Fld Z h3 o0 oNT "localName" "Ljava/lang/String;" .null := F_localName_o0_2.other W3 (Or.inr (slot_ne (Or.inr (own_h hw 63 rfl)) (Or.inr (own_h hw 61 rfl)) (by decide) (t := (.object "java/lang/String")) (t' := (.object "java/lang/String")) (by decide) (by decide)))
  have F_type_o0_3 : Fld Z h3 o0 oNT "type" "Lcom/example/thames/thames/model/SchemaType;" .null := F_type_o0_2.other W3 (Or.inr (slot_ne (Or.inr (own_h hw 65 rfl)) (Or.inr (own_h hw 61 rfl)) (by decide) (t := (.object "com/example/thames/thames/model/SchemaType")) (t' := (.object "java/lang/String")) (by decide) (by decide)))
  have F_elementTest_o0_3 : Fld Z h3 o0 oNT "elementTest" "Lcom/example/thames/thames/engine/NodeTest;" .null := F_elementTest_o0_2.other W3 (Or.inr (slot_ne (Or.inr (own_h hw 67 rfl)) (Or.inr (own_h hw 61 rfl)) (by decide) (t := (.object oNT)) (t' := (.object "java/lang/String")) (by decide) (by decide)))
  have F_elementQuery_o0_3 : Fld Z h3 o0 oNT "elementQuery" "Lcom/example/thames/thames/model/ElementQuery;" .null := F_elementQuery_o0_2.other W3 (Or.inr (slot_ne (Or.inr (own_h hw 75 rfl)) (Or.inr (own_h hw 61 rfl)) (by decide) (t := (.object oEQ)) (t' := (.object "java/lang/String")) (by decide) (by decide)))
  have Z3 : n0 ≤ h3.size := Nat.le_trans Z2 (Nat.le_of_eq W3.size.symm)
  have B3 : Ext hB h3 := own_ext_wr B2 W3 gb_o0
  have E_o0_3 : Exa Z h3 o0 oNT := E_o0_2.wr W3
  have Kz3 : Keep h0 h3 [o0] := Kz2.wr W3 (Or.inl (List.mem_of_getElem? (i := 0) rfl))
  have N3 := Fr.snoc X3 N2 g_o0
  refine Goes.go st3 ?_
  show Goes p e below _ (T3.setTop (mkF m 14 #[.val (.ref o0), .val .null, .val v2, .val v3, .val .null, .val .null, .unset] []))
  refine Goes.go (fun t => XS.aloadN X3.here hx rfl (hb hby dFN_14) rfl rfl ) ?_
  refine Goes.go (fun t => XS.aloadN X3.here hx rfl (hb hby dFN_15) rfl (by assumption) ) ?_
  show Goes p e below _ (T3.setTop (mkF m 16 #[.val (.ref o0), .val .null, .val v2, .val v3, .val .null, .val .null, .unset] [v3, (.ref o0)]))
  obtain ⟨T4, h4, X4, e4, W4, st4⟩ := putF X3 hx hZ hown (host := "") (Or.inl (own_h hw 62 rfl)) Via.refl e3 F_localName_o0_3 E_o0_3 (Or.inr ⟨(own_h hw 63 rfl), rfl, hnm⟩) (own_h hw 49 rfl) (ty := (.object "java/lang/String")) (by decide) own_narrow (own_fits (by assumption)) (g := (mkF m 16 #[.val (.ref o0), .val .null, .val v2, .val v3, .val .null, .val .null, .unset] [v3, (.ref o0)])) rfl rfl (hb hby dFN_16)
  have F_kind_o0_4 : Fld Z h4 o0 oNT "kind" "Lcom/example/thames/thames/model/NodeKind;" .null := F_kind_o0_3.other W4 (Or.inr (slot_ne (Or.inr (own_h hw 59 rfl)) (Or.inr (own_h hw 63 rfl)) (by decide) (t := (.object oNK)) (t' := (.object "java/lang/String")) (by decide) (by decide)))
  have F_namespaceUri_o0_4 : Fld Z h4 o0 oNT "namespaceUri" "Ljava/lang/String;" v2 := F_namespaceUri_o0_3.other W4 (Or.inr (slot_ne (Or.inr (own_h hw 61 rfl)) (Or.inr (own_h hw 63 rfl)) (by decide) (t := (.object "java/lang/String")) (t' := (.object "java/lang/String")) (by decide) (by decide)))
  have F_localName_o0_4 : Fld Z h4 o0 oNT "localName" "Ljava/lang/String;" v3 := F_localName_o0_3.same W4
  have F_type_o0_4 : Fld Z h4 o0 oNT "type" "Lcom/example/thames/thames/model/SchemaType;" .null := F_type_o0_3.other W4 (Or.inr (slot_ne (Or.inr (own_h hw 65 rfl)) (Or.inr (own_h hw 63 rfl)) (by decide) (t := (.object "com/example/thames/thames/model/SchemaType")) (t' := (.object "java/lang/String")) (by decide) (by decide)))
  have F_elementTest_o0_4 : Fld Z h4 o0 oNT "elementTest" "Lcom/example/thames/thames/engine/NodeTest;" .null := F_elementTest_o0_3.other W4 (Or.inr (slot_ne (Or.inr (own_h hw 67 rfl)) (Or.inr (own_h hw 63 rfl)) (by decide) (t := (.object oNT)) (t' := (.object "java/lang/String")) (by decide) (by decide)))
  have F_elementQuery_o0_4 : Fld Z h4 o0 oNT "elementQuery" "Lcom/example/thames/thames/model/ElementQuery;" .null := F_elementQuery_o0_3.other W4 (Or.inr (slot_ne (Or.inr (own_h hw 75 rfl)) (Or.inr (own_h hw 63 rfl)) (by decide) (t := (.object oEQ)) (t' := (.object "java/lang/String")) (by decide) (by decide)))
  have Z4 : n0 ≤ h4.size := Nat.le_trans Z3 (Nat.le_of_eq W4.size.symm)
  have B4 : Ext hB h4 := own_ext_wr B3 W4 gb_o0
  have E_o0_4 : Exa Z h4 o0 oNT := E_o0_3.wr W4
  have Kz4 : Keep h0 h4 [o0] := Kz3.wr W4 (Or.inl (List.mem_of_getElem? (i := 0) rfl))
  have N4 := Fr.snoc X4 N3 g_o0
  refine Goes.go st4 ?_
  show Goes p e below _ (T4.setTop (mkF m 19 #[.val (.ref o0), .val .null, .val v2, .val v3, .val .null, .val .null, .unset] []))
  refine Goes.go (fun t => XS.aloadN X4.here hx rfl (hb hby dFN_19) rfl rfl ) ?_
  refine Goes.go (fun t => XS.aload X4.here hx rfl (hb hby dFN_20) rfl rfl ) ?_
  show Goes p e below _ (T4.setTop (mkF m 22 #[.val (.ref o0), .val .null, .val v2, .val v3, .val .null, .val .null, .unset] [.null, (.ref o0)]))
  obtain ⟨T5, h5, X5, e5, W5, st5⟩ := putF X4 hx hZ hown (host := "") (Or.inl (own_h hw 64 rfl)) Via.refl e4 F_type_o0_4 E_o0_4 (Or.inr ⟨(own_h hw 65 rfl), rfl, hnm⟩) (own_h hw 49 rfl) (ty := (.object "com/example/thames/thames/model/SchemaType")) (by decide) rfl rfl (g := (mkF m 22 #[.val (.ref o0), .val .null, .val v2, .val v3, .val .null, .val .null, .unset] [.null, (.ref o0)])) rfl rfl (hb hby dFN_22)
  have F_kind_o0_5 : Fld Z h5 o0 oNT "kind" "Lcom/example/thames/thames/model/NodeKind;" .null := F_kind_o0_4.other W5 (Or.inr (slot_ne (Or.inr (own_h hw 59 rfl)) (Or.inr (own_h hw 65 rfl)) (by decide) (t := (.object oNK)) (t' := (.object "com/example/thames/thames/model/SchemaType")) (by decide) (by decide)))
  have F_namespaceUri_o0_5 : Fld Z h5 o0 oNT "namespaceUri" "Ljava/lang/String;" v2 := F_namespaceUri_o0_4.other W5 (Or.inr (slot_ne (Or.inr (own_h hw 61 rfl)) (Or.inr (own_h hw 65 rfl)) (by decide) (t := (.object "java/lang/String")) (t' := (.object "com/example/thames/thames/model/SchemaType")) (by decide) (by decide)))
  have F_localName_o0_5 : Fld Z h5 o0 oNT "localName" "Ljava/lang/String;" v3 := F_localName_o0_4.other W5 (Or.inr (slot_ne (Or.inr (own_h hw 63 rfl)) (Or.inr (own_h hw 65 rfl)) (by decide) (t := (.object "java/lang/String")) (t' := (.object "com/example/thames/thames/model/SchemaType")) (by decide) (by decide)))
  have F_type_o0_5 : Fld Z h5 o0 oNT "type" "Lcom/example/thames/thames/model/SchemaType;" .null := F_type_o0_4.same W5
  have F_elementTest_o0_5 : Fld Z h5 o0 oNT "elementTest" "Lcom/example/thames/thames/engine/NodeTest;" .null := F_elementTest_o0_4.other W5 (Or.inr (slot_ne (Or.inr (own_h hw 67 rfl)) (Or.inr (own_h hw 65 rfl)) (by decide) (t := (.object oNT)) (t' := (.object "com/example/thames/thames/model/SchemaType")) (by decide) (by decide)))
  have F_elementQuery_o0_5 : Fld Z h5 o0 oNT "elementQuery" "Lcom/example/thames/thames/model/ElementQuery;" .null := F_elementQuery_o0_4.other W5 (Or.inr (slot_ne (Or.inr (own_h hw 75 rfl)) (Or.inr (own_h hw 65 rfl)) (by decide) (t := (.object oEQ)) (t' := (.object "com/example/thames/thames/model/SchemaType")) (by decide) (by decide)))
  have Z5 : n0 ≤ h5.size := Nat.le_trans Z4 (Nat.le_of_eq W5.size.symm)
  have B5 : Ext hB h5 := own_ext_wr B4 W5 gb_o0
  have E_o0_5 : Exa Z h5 o0 oNT := E_o0_4.wr W5
  have Kz5 : Keep h0 h5 [o0] := Kz4.wr W5 (Or.inl (List.mem_of_getElem? (i := 0) rfl))
  have N5 := Fr.snoc X5 N4 g_o0
  refine Goes.go st5 ?_
  show Goes p e below _ (T5.setTop (mkF m 25 #[.val (.ref o0), .val .null, .val v2, .val v3, .val .null, .val .null, .unset] []))
  refine Goes.go (fun t => XS.aloadN X5.here hx rfl (hb hby dFN_25) rfl rfl ) ?_
  refine Goes.go (fun t => XS.aload X5.here hx rfl (hb hby dFN_26) rfl rfl ) ?_
  show Goes p e below _ (T5.setTop (mkF m 28 #[.val (.ref o0), .val .null, .val v2, .val v3, .val .null, .val .null, .unset] [.null, (.ref o0)]))
  obtain ⟨T6, h6, X6, e6, W6, st6⟩ := putF X5 hx hZ hown (host := "") (Or.inl (own_h hw 66 rfl)) Via.refl e5 F_elementTest_o0_5 E_o0_5 (Or.inr ⟨(own_h hw 67 rfl), rfl, hnm⟩) (own_h hw 49 rfl) (ty := (.object oNT)) (by decide) rfl rfl (g := (mkF m 28 #[.val (.ref o0), .val .null, .val v2, .val v3, .val .null, .val .null, .unset] [.null, (.ref o0)])) rfl rfl (hb hby dFN_28)
  have F_kind_o0_6 : Fld Z h6 o0 oNT "kind" "Lcom/example/thames/thames/model/NodeKind;" .null := F_kind_o0_5.other W6 (Or.inr (slot_ne (Or.inr (own_h hw 59 rfl)) (Or.inr (own_h hw 67 rfl)) (by decide) (t := (.object oNK)) (t' := (.object oNT)) (by decide) (by decide)))
  have F_namespaceUri_o0_6 : Fld Z h6 o0 oNT "namespaceUri" "Ljava/lang/String;" v2 := F_namespaceUri_o0_5.other W6 (Or.inr (slot_ne (Or.inr (own_h hw 61 rfl)) (Or.inr (own_h hw 67 rfl)) (by decide) (t := (.object "java/lang/String")) (t' := (.object oNT)) (by decide) (by decide)))
  have F_localName_o0_6 : Fld Z h6 o0 oNT "localName" "Ljava/lang/String;" v3 := F_localName_o0_5.other W6 (Or.inr (slot_ne (Or.inr (own_h hw 63 rfl)) (Or.inr (own_h hw 67 rfl)) (by decide) (t := (.object "java/lang/String")) (t' := (.object oNT)) (by decide) (by decide)))
  have F_type_o0_6 : Fld Z h6 o0 oNT "type" "Lcom/example/thames/thames/model/SchemaType;" .null := F_type_o0_5.other W6 (Or.inr (slot_ne (Or.inr (own_h hw 65 rfl)) (Or.inr (own_h hw 67 rfl)) (by decide) (t := (.object "com/example/thames/thames/model/SchemaType")) (t' := (.object oNT)) (by decide) (by decide)))
  have F_elementTest_o0_6 : Fld Z h6 o0 oNT "elementTest" "Lcom/example/thames/thames/engine/NodeTest;" .null := F_elementTest_o0_5.same W6
  have F_elementQuery_o0_6 : Fld Z h6 o0 oNT "elementQuery" "Lcom/example/thames/thames/model/ElementQuery;" .null := F_elementQuery_o0_5.other W6 (Or.inr (slot_ne (Or.inr (own_h hw 75 rfl)) (Or.inr (own_h hw 67 rfl)) (by decide) (t := (.object oEQ)) (t' := (.object oNT)) (by decide) (by decide)))
  have Z6 : n0 ≤ h6.size := Nat.le_trans Z5 (Nat.le_of_eq W6.size.symm)
  have B6 : Ext hB h6 := own_ext_wr B5 W6 gb_o0
  have E_o0_6 : Exa Z h6 o0 oNT := E_o0_5.wr W6
  have Kz6 : Keep h0 h6 [o0] := Kz5.wr W6 (Or.inl (List.mem_of_getElem? (i := 0) rfl))
  have N6 := Fr.snoc X6 N5 g_o0
  refine Goes.go st6 ?_
  show Goes p e below _ (T6.setTop (mkF m 31 #[.val (.ref o0), .val .null, .val v2, .val v3, .val .null, .val .null, .unset] []))
  refine Goes.go (fun t => XS.aconstNull X6.here hx rfl (hb hby dFN_31)) ?_
  refine Goes.go (fun t => XS.astore X6.here hx rfl (hb hby dFN_32) rfl rfl (l' := #[.val (.ref o0), .val .null, .val v2, .val v3, .val .null, .val .null, .val .null]) rfl) ?_
  refine Goes.go (fun t => XS.aloadN X6.here hx rfl (hb hby dFN_34) rfl rfl ) ?_
  show Goes p e below _ (T6.setTop (mkF m 35 #[.val (.ref o0), .val .null, .val v2, .val v3, .val .null, .val .null, .val .null] [(.ref o0)]))
  obtain ⟨cq7, q7, q7'⟩ := E_o0_6.cell
  obtain ⟨_, _, ⟨T7, L7, k7, n7⟩, -, X7, ⟨Lc7, hQ7, l7, y7, z7⟩, st7⟩ := X6.privateBack hx (y := (⟨oNT, "testsElementNameAlone", "()Z"⟩ : MethodName)) hown (mvT hZ (own_h hw 68 rfl)) (mvT hZ (own_h hw 69 rfl)) (own_selects (by decide) (mvT hZ (own_h hw 49 rfl)) (mvT hZ (own_h hw 69 rfl)) (mvP hZ (own_h hw 70 rfl))) (Cond.privateMethod_at (mvP hZ (own_h hw 70 rfl) (args := #[]))) (mvT hZ (own_h hw 71 rfl)) (by decide) (backOf (W := 0) (rmTN l Z a0 hw [] o0 wE h6 n0 Z6 F_kind_o0_6 F_type_o0_6 F_elementTest_o0_6 (S_E.ext B6)) hZ (own_h hw 71 rfl) (own_h hw 50 rfl) (by decide) (by decide)) (g := (mkF m 35 #[.val (.ref o0), .val .null, .val v2, .val v3, .val .null, .val .null, .val .null] [(.ref o0)])) rfl (by rw [hml]; rfl) (Steps.refl _) (a := o0) (by rw [e6]; exact q7) q7' (argsL := []) (rest := []) (lenOf pdFN_0 rfl) rfl (by show 2 * 0 + _ ≤ _; exact Nat.le_of_eq rfl) (hb hby dFN_35) (fun _ _ => ⟨rfl, e6, (by decide : 0 + 0 ≤ _), (by decide : 0 + 0 ≤ _)⟩)
  dsimp only [Pt.U, Pt.locs, Pt.cells, Pt.slots] at X7 l7 y7 z7 st7 hQ7
  subst l7 y7 z7
  obtain ⟨rfl, N7q, e7q⟩ := hQ7
  have N7 := Fr.app N6 N7q
  refine Goes.via st7 ?_
  show Goes p e below _ (T7.setTop (mkF m 38 #[.val (.ref o0), .val .null, .val v2, .val v3, .val .null, .val .null, .val .null] [(.int (0 : Int32))]))
  refine Goes.go (fun t => XS.ifYes X7.here hx rfl (pc0 := 38) (pc' := 48) rfl (hb hby dFN_38) rfl (Jvm.Free.XT.i0_eq_t (by decide)) (by decide) (by decide)) ?_
  show Goes p e below _ (T7.setTop (mkF m 48 #[.val (.ref o0), .val .null, .val v2, .val v3, .val .null, .val .null, .val .null] []))
  refine Goes.go (fun t => XS.aloadN X7.here hx rfl (hb hby dFN_48) rfl rfl ) ?_
  refine Goes.go (fun t => XS.aload X7.here hx rfl (hb hby dFN_49) rfl rfl ) ?_
  show Goes p e below _ (T7.setTop (mkF m 51 #[.val (.ref o0), .val .null, .val v2, .val v3, .val .null, .val .null, .val .null] [.null, (.ref o0)]))
  obtain ⟨T8, h8, X8, e8, W8, st8⟩ := putF X7 hx hZ hown (host := "") (Or.inl (own_h hw 74 rfl)) Via.refl e7q F_elementQuery_o0_6 E_o0_6 (Or.inr ⟨(own_h hw 75 rfl), rfl, hnm⟩) (own_h hw 49 rfl) (ty := (.object oEQ)) (by decide) rfl rfl (g := (mkF m 51 #[.val (.ref o0), .val .null, .val v2, .val v3, .val .null, .val .null, .val .null] [.null, (.ref o0)])) rfl rfl (hb hby dFN_51)
  have F_kind_o0_8 : Fld Z h8 o0 oNT "kind" "Lcom/example/thames/thames/model/NodeKind;" .null := F_kind_o0_6.other W8 (Or.inr (slot_ne (Or.inr (own_h hw 59 rfl)) (Or.inr (own_h hw 75 rfl)) (by decide) (t := (.object oNK)) (t' := (.object oEQ)) (by decide) (by decide)))
  have F_namespaceUri_o0_8 : Fld Z h8 o0 oNT "namespaceUri" "Ljava/lang/String;" v2 := F_namespaceUri_o0_6.other W8 (Or.inr (slot_ne (Or.inr (own_h hw 61 rfl)) (Or.inr (own_h hw 75 rfl)) (by decide) (t := (.object "java/lang/String")) (t' := (.object oEQ)) (by decide) (by decide)))
  have F_localName_o0_8 : Fld Z h8 o0 oNT "localName" "Ljava/lang/String;" v3 := F_localName_o0_6.other W8 (Or.inr (slot_ne (Or.inr (own_h hw 63 rfl)) (Or.inr (own_h hw 75 rfl)) (by decide) (t := (.object "java/lang/String")) (t' := (.object oEQ)) (by decide) (by decide)))
  have F_type_o0_8 : Fld Z h8 o0 oNT "type" "Lcom/example/thames/thames/model/SchemaType;" .null := F_type_o0_6.other W8 (Or.inr (slot_ne (Or.inr (own_h hw 65 rfl)) (Or.inr (own_h hw 75 rfl)) (by decide) (t := (.object "com/example/thames/thames/model/SchemaType")) (t' := (.object oEQ)) (by decide) (by decide)))
  have F_elementTest_o0_8 : Fld Z h8 o0 oNT "elementTest" "Lcom/example/thames/thames/engine/NodeTest;" .null := F_elementTest_o0_6.other W8 (Or.inr (slot_ne (Or.inr (own_h hw 67 rfl)) (Or.inr (own_h hw 75 rfl)) (by decide) (t := (.object oNT)) (t' := (.object oEQ)) (by decide) (by decide)))
  have F_elementQuery_o0_8 : Fld Z h8 o0 oNT "elementQuery" "Lcom/example/thames/thames/model/ElementQuery;" .null := F_elementQuery_o0_6.same W8
  have Z8 : n0 ≤ h8.size := Nat.le_trans Z6 (Nat.le_of_eq W8.size.symm)
  have B8 : Ext hB h8 := own_ext_wr B6 W8 gb_o0
  have E_o0_8 : Exa Z h8 o0 oNT := E_o0_6.wr W8
  have Kz8 : Keep h0 h8 [o0] := Kz6.wr W8 (Or.inl (List.mem_of_getElem? (i := 0) rfl))
  have N8 := Fr.snoc X8 N7 g_o0
  refine Goes.go st8 ?_
  show Goes p e below _ (T8.setTop (mkF m 54 #[.val (.ref o0), .val .null, .val v2, .val v3, .val .null, .val .null, .val .null] []))
  exact Goes.out X8 (fun _ => rfl) Bd.notSynchronized (fun fs hr => X8.returnOut hx Bd.returns (hb hby dFN_54) hr) (by rw [e8]; exact ⟨rfl, N8, Kz8, F_kind_o0_8, F_namespaceUri_o0_8, F_localName_o0_8, F_type_o0_8, F_elementTest_o0_8, F_elementQuery_o0_8⟩) (by decide) (by decide)
theorem dFW_0 : decode prog_106_method_2_code 0 = .ok (.aload_n 0, 1) := by decide +kernel
theorem dFW_1 : decode prog_106_method_2_code 1 = .ok (.invokespecial 7, 3) := by decide +kernel
theorem dFW_4 : decode prog_106_method_2_code 4 = .ok (.aload_n 0, 1) := by decide +kernel
theorem dFW_5 : decode prog_106_method_2_code 5 = .ok (.aload_n 1, 1) := by decide +kernel
theorem dFW_6 : decode prog_106_method_2_code 6 = .ok (.putfield 12, 3) := by decide +kernel
theorem dFW_9 : decode prog_106_method_2_code 9 = .ok (.aload_n 0, 1) := by decide +kernel
theorem dFW_10 : decode prog_106_method_2_code 10 = .ok (.aload_n 2, 1) := by decide +kernel
theorem dFW_11 : decode prog_106_method_2_code 11 = .ok (.putfield 16, 3) := by decide +kernel
theorem dFW_14 : decode prog_106_method_2_code 14 = .ok (.aload_n 0, 1) := by decide +kernel
theorem dFW_15 : decode prog_106_method_2_code 15 = .ok (.aload_n 3, 1) := by decide +kernel
theorem dFW_16 : decode prog_106_method_2_code 16 = .ok (.putfield 20, 3) := by decide +kernel
theorem dFW_19 : decode prog_106_method_2_code 19 = .ok (.aload_n 0, 1) := by decide +kernel
theorem dFW_20 : decode prog_106_method_2_code 20 = .ok (.aload 4, 2) := by decide +kernel
theorem dFW_22 : decode prog_106_method_2_code 22 = .ok (.putfield 23, 3) := by decide +kernel
theorem dFW_25 : decode prog_106_method_2_code 25 = .ok (.aload_n 0, 1) := by decide +kernel
theorem dFW_26 : decode prog_106_method_2_code 26 = .ok (.aload 5, 2) := by decide +kernel
theorem dFW_28 : decode prog_106_method_2_code 28 = .ok (.putfield 27, 3) := by decide +kernel
theorem dFW_31 : decode prog_106_method_2_code 31 = .ok (.aconst_null, 1) := by decide +kernel
theorem dFW_32 : decode prog_106_method_2_code 32 = .ok (.astore 6, 2) := by decide +kernel
theorem dFW_34 : decode prog_106_method_2_code 34 = .ok (.aload_n 0, 1) := by decide +kernel
theorem dFW_35 : decode prog_106_method_2_code 35 = .ok (.invokevirtual 31, 3) := by decide +kernel
theorem dFW_38 : decode prog_106_method_2_code 38 = .ok (.ifCond .eq 10, 3) := by decide +kernel
theorem dFW_48 : decode prog_106_method_2_code 48 = .ok (.aload_n 0, 1) := by decide +kernel
theorem dFW_49 : decode prog_106_method_2_code 49 = .ok (.aload 6, 2) := by decide +kernel
theorem dFW_51 : decode prog_106_method_2_code 51 = .ok (.putfield 41, 3) := by decide +kernel
theorem dFW_54 : decode prog_106_method_2_code 54 = .ok (.return_, 1) := by decide +kernel
theorem pn_FW : plainName oNT = true := by first | (simp [plainName, overriddenIn]; done) | decide +kernel
theorem pdFW_0 : parseMethodDescriptor "()Z" = some ⟨[], some .boolean⟩ := by decide +kernel
theorem ef_FW (m : MethodId) (o0 : Addr) (w1 : Addr) (v2 : Value) (v3 : Value) (r_v2 : v2.isRef = true) (r_v3 : v3.isRef = true) : entryFrame m #[(.ref o0), (.ref w1), v2, v3, .null, .null] 7 = mkF m 0 #[.val (.ref o0), .val (.ref w1), .val v2, .val v3, .val .null, .val .null, .unset] [] := by rcases ref_cases r_v2 with rfl | ⟨_, rfl⟩ <;> rcases ref_cases r_v3 with rfl | ⟨_, rfl⟩ <;> first | (simp [entryFrame, mkF, argsToLocals, Value.category]; done) | rfl
def QFW (Z : State) (o0 : Addr) (w1 : Addr) (v2 : Value) (v3 : Value) (wE : Addr) (hB : Heap) (h0 : Heap) (n0 : Nat) (v : Option Value) (h : Heap) (L : List Loc) : Prop := v = none ∧ Fr n0 L ∧ Keep h0 h [o0] ∧ Fld Z h o0 oNT "kind" "Lcom/example/thames/thames/model/NodeKind;" (.ref w1) ∧ Fld Z h o0 oNT "namespaceUri" "Ljava/lang/String;" v2 ∧ Fld Z h o0 oNT "localName" "Ljava/lang/String;" v3 ∧ Fld Z h o0 oNT "type" "Lcom/example/thames/thames/model/SchemaType;" .null ∧ Fld Z h o0 oNT "elementTest" "Lcom/example/thames/thames/engine/NodeTest;" .null ∧ Fld Z h o0 oNT "elementQuery" "Lcom/example/thames/thames/model/ElementQuery;" .null
set_option maxRecDepth 65536 in
set_option maxHeartbeats 40000000 in
theorem rmFW (l : Launch) (Z : State) (a0 : Array Value) (hw : ∀ d ∈ tables_1, d.before a0 Z = true) (ws : List Jvm.Cond) (o0 : Addr) (w1 : Addr) (v2 : Value) (v3 : Value) (wE : Addr) (hB : Heap) (h0 : Heap) (n0 : Nat) (Z0 : n0 ≤ h0.size) (r_v2 : v2.isRef = true) (r_v3 : v3.isRef = true) (B0 : Ext hB h0) (gb_o0 : hB.size ≤ o0) (g_o0 : n0 ≤ o0) (S_E : Sta Z hB oNK "ELEMENT" "Lcom/example/thames/thames/model/NodeKind;" (.ref wE)) (E_o0 : Exa Z h0 o0 oNT) (F_kind : Fld Z h0 o0 oNT "kind" "Lcom/example/thames/thames/model/NodeKind;" .null) (F_namespaceUri : Fld Z h0 o0 oNT "namespaceUri" "Ljava/lang/String;" .null) (F_localName : Fld Z h0 o0 oNT "localName" "Ljava/lang/String;" .null) (F_type : Fld Z h0 o0 oNT "type" "Lcom/example/thames/thames/model/SchemaType;" .null) (F_elementTest : Fld Z h0 o0 oNT "elementTest" "Lcom/example/thames/thames/engine/NodeTest;" .null) (F_elementQuery : Fld Z h0 o0 oNT "elementQuery" "Lcom/example/thames/thames/model/ElementQuery;" .null) (hne : ¬ w1 = wE) :
    MetFree l (⟨oNT, "<init>", "(Lcom/example/thames/thames/model/NodeKind;Ljava/lang/String;Ljava/lang/String;Lcom/example/thames/thames/model/SchemaType;Lcom/example/thames/thames/engine/NodeTest;)V"⟩ : MethodName) (head1 (Jvm.Cond.code (⟨oNT, "<init>", "(Lcom/example/thames/thames/model/NodeKind;Ljava/lang/String;Ljava/lang/String;Lcom/example/thames/thames/model/SchemaType;Lcom/example/thames/thames/engine/NodeTest;)V"⟩ : MethodName) prog_106_method_2_code 7 none :: ws) (oR 1 0 0 12)) (fun a U => a = #[(.ref o0), (.ref w1), v2, v3, .null, .null] ∧ Z.Warmed39 U.vm ∧ U.heap = h0) (fun _ _ _ _ _ => True) (fun _ U o U' => ∃ v L, o = .returned v ∧ QFW Z o0 w1 v2 v3 wE hB h0 n0 v U'.heap L ∧ FrameEnd U o U' L (oR 1 0 0 12).cells (oR 1 0 0 12).slots) := by
  refine MetFree.of_bodySF (plainFor_of_name pn_FW) hisR ?_
  intro p e s m args below meth c s₁ Bd hml0 hP hK
  obtain ⟨rfl, hZ, hh⟩ := hP
  have hx := Bd.exec
  have hby := Bd.bytes
  have hml : c.maxLocals = 7 := hml0
  have hown : s.vm.findClass oNT = some m.cls := findClass_of_methodNamed Bd.named
  have hnm := (name_of_methodNamed Bd.named Bd.method).1
  have X0 : Stand p l e (oR 1 0 0 12) s m #[(.ref o0), (.ref w1), v2, v3, .null, .null] below meth c s₁ [] 0 0 := Stand.of_body Bd
  have e0 : s₁.heap = h0 := by rw [← hh, Bd.state]; rfl
  have N0 := Fr.nil n0
  show Goes p e below (fun o U' => ∃ v L, o = .returned v ∧ QFW Z o0 w1 v2 v3 wE hB h0 n0 v U'.heap L ∧ FrameEnd s o U' L (oR 1 0 0 12).cells (oR 1 0 0 12).slots) _
  refine Goes.go (fun t k => castTop (ef_FW m o0 w1 v2 v3 r_v2 r_v3) k) ?_
  show Goes p e below _ (s₁.setTop (mkF m 0 #[.val (.ref o0), .val (.ref w1), .val v2, .val v3, .val .null, .val .null, .unset] []))
  refine Goes.go (fun t => XS.aloadN X0.here hx rfl (hb hby dFW_0) rfl rfl ) ?_
  show Goes p e below _ (s₁.setTop (mkF m 1 #[.val (.ref o0), .val (.ref w1), .val v2, .val v3, .val .null, .val .null, .unset] [(.ref o0)]))
  obtain ⟨T1, X1, e1, st1⟩ := initO X0 hx hZ hown (own_h hw 57 rfl) (own_h hw 23 rfl) (own_h hw 24 rfl) e0 (g := (mkF m 1 #[.val (.ref o0), .val (.ref w1), .val v2, .val v3, .val .null, .val .null, .unset] [(.ref o0)])) rfl (by rw [hml]; rfl) rfl (hb hby dFW_1) (by decide) (W := 0) (by show 2 * 0 + _ ≤ _; exact Nat.le_of_eq rfl) (by decide)
  refine Goes.go st1 ?_
  show Goes p e below _ (T1.setTop (mkF m 4 #[.val (.ref o0), .val (.ref w1), .val v2, .val v3, .val .null, .val .null, .unset] []))
  refine Goes.go (fun t => XS.aloadN X1.here hx rfl (hb hby dFW_4) rfl rfl ) ?_
  refine Goes.go (fun t => XS.aloadN X1.here hx rfl (hb hby dFW_5) rfl rfl ) ?_
  show Goes p e below _ (T1.setTop (mkF m 6 #[.val (.ref o0), .val (.ref w1), .val v2, .val v3, .val .null, .val .null, .unset] [(.ref w1), (.ref o0)]))
  obtain ⟨T2, h2, X2, e2, W2, st2⟩ := putF X1 hx hZ hown (host := "") (Or.inl (own_h hw 58 rfl)) Via.refl e1 F_kind E_o0 (Or.inr ⟨(own_h hw 59 rfl), rfl, hnm⟩) (own_h hw 49 rfl) (ty := (.object oNK)) (by decide) rfl rfl (g := (mkF m 6 #[.val (.ref o0), .val (.ref w1), .val v2, .val v3, .val .null, .val .null, .unset] [(.ref w1), (.ref o0)])) rfl rfl (hb hby dFW_6)
  have F_kind_o0_2 : Fld Z h2 o0 oNT "kind" "Lcom/example/thames/thames/model/NodeKind;" (.ref w1) := F_kind.same W2
  have F_namespaceUri_o0_2 : Fld Z h2 o0 oNT "namespaceUri" "Ljava/lang/String;" .null := F_namespaceUri.other W2 (Or.inr (slot_ne (Or.inr (own_h hw 61 rfl)) (Or.inr (own_h hw 59 rfl)) (by decide) (t := (.object "java/lang/String")) (t' := (.object oNK)) (by decide) (by decide)))
  have F_localName_o0_2 : Fld Z h2 o0 oNT "localName" "Ljava/lang/String;" .null := F_localName.other W2 (Or.inr (slot_ne (Or.inr (own_h hw 63 rfl)) (Or.inr (own_h hw 59 rfl)) (by decide) (t := (.object "java/lang/String")) (t' := (.object oNK)) (by decide) (by decide)))
  have F_type_o0_2 : Fld Z h2 o0 oNT "type" "Lcom/example/thames/thames/model/SchemaType;" .null := F_type.other W2 (Or.inr (slot_ne (Or.inr (own_h hw 65 rfl)) (Or.inr (own_h hw 59 rfl)) (by decide) (t := (.object "com/example/thames/thames/model/SchemaType")) (t' := (.object oNK)) (by decide) (by decide)))
  have F_elementTest_o0_2 : Fld Z h2 o0 oNT "elementTest" "Lcom/example/thames/thames/engine/NodeTest;" .null := F_elementTest.other W2 (Or.inr (slot_ne (Or.inr (own_h hw 67 rfl)) (Or.inr (own_h hw 59 rfl)) (by decide) (t := (.object oNT)) (t' := (.object oNK)) (by decide) (by decide)))
  have F_elementQuery_o0_2 : Fld Z h2 o0 oNT "elementQuery" "Lcom/example/thames/thames/model/ElementQuery;" .null := F_elementQuery.other W2 (Or.inr (slot_ne (Or.inr (own_h hw 75 rfl)) (Or.inr (own_h hw 59 rfl)) (by decide) (t := (.object oEQ)) (t' := (.object oNK)) (by decide) (by decide)))
  have Z2 : n0 ≤ h2.size := Nat.le_trans Z0 (Nat.le_of_eq W2.size.symm)
  have B2 : Ext hB h2 := own_ext_wr B0 W2 gb_o0
  have E_o0_2 : Exa Z h2 o0 oNT := E_o0.wr W2
  have Kz2 : Keep h0 h2 [o0] := (Keep.refl h0 [o0]).wr W2 (Or.inl (List.mem_of_getElem? (i := 0) rfl))
  have N2 := Fr.snoc X2 N0 g_o0
  refine Goes.go st2 ?_
  show Goes p e below _ (T2.setTop (mkF m 9 #[.val (.ref o0), .val (.ref w1), .val v2, .val v3, .val .null, .val .null, .unset] []))
  refine Goes.go (fun t => XS.aloadN X2.here hx rfl (hb hby dFW_9) rfl rfl ) ?_
  refine Goes.go (fun t => XS.aloadN X2.here hx rfl (hb hby dFW_10) rfl (by assumption) ) ?_
  show Goes p e below _ (T2.setTop (mkF m 11 #[.val (.ref o0), .val (.ref w1), .val v2, .val v3, .val .null, .val .null, .unset] [v2, (.ref o0)]))
  obtain ⟨T3, h3, X3, e3, W3, st3⟩ := putF X2 hx hZ hown (host := "") (Or.inl (own_h hw 60 rfl)) Via.refl e2 F_namespaceUri_o0_2 E_o0_2 (Or.inr ⟨(own_h hw 61 rfl), rfl, hnm⟩) (own_h hw 49 rfl) (ty := (.object "java/lang/String")) (by decide) own_narrow (own_fits (by assumption)) (g := (mkF m 11 #[.val (.ref o0), .val (.ref w1), .val v2, .val v3, .val .null, .val .null, .unset] [v2, (.ref o0)])) rfl rfl (hb hby dFW_11)
  have F_kind_o0_3 : Fld Z h3 o0 oNT "kind" "Lcom/example/thames/thames/model/NodeKind;" (.ref w1) := F_kind_o0_2.other W3 (Or.inr (slot_ne (Or.inr (own_h hw 59 rfl)) (Or.inr (own_h hw 61 rfl)) (by decide) (t := (.object oNK)) (t' := (.object "java/lang/String")) (by decide) (by decide)))
  have F_namespaceUri_o0_3 : Fld Z h3 o0 oNT "namespaceUri" "Ljava/lang/String;" v2 := F_namespaceUri_o0_2.same W3
  have F_localName_o0_3 : Fld Z h3 o0 oNT "localName" "Ljava/lang/String;" .null := F_localName_o0_2.other W3 (Or.inr (slot_ne (Or.inr (own_h hw 63 rfl)) (Or.inr (own_h hw 61 rfl)) (by decide) (t := (.object "java/lang/String")) (t' := (.object "java/lang/String")) (by decide) (by decide)))
  have F_type_o0_3 : Fld Z h3 o0 oNT "type" "Lcom/example/thames/thames/model/SchemaType;" .null := F_type_o0_2.other W3 (Or.inr (slot_ne (Or.inr (own_h hw 65 rfl)) (Or.inr (own_h hw 61 rfl)) (by decide) (t := (.object "com/example/thames/thames/model/SchemaType")) (t' := (.object "java/lang/String")) (by decide) (by decide)))
  have F_elementTest_o0_3 : Fld Z h3 o0 oNT "elementTest" "Lcom/example/thames/thames/engine/NodeTest;" .null := F_elementTest_o0_2.other W3 (Or.inr (slot_ne (Or.inr (own_h hw 67 rfl)) (Or.inr (own_h hw 61 rfl)) (by decide) (t := (.object oNT)) (t' := (.object "java/lang/String")) (by decide) (by decide)))
  have F_elementQuery_o0_3 : Fld Z h3 o0 oNT "elementQuery" "Lcom/example/thames/thames/model/ElementQuery;" .null := F_elementQuery_o0_2.other W3 (Or.inr (slot_ne (Or.inr (own_h hw 75 rfl)) (Or.inr (own_h hw 61 rfl)) (by decide) (t := (.object oEQ)) (t' := (.object "java/lang/String")) (by decide) (by decide)))
  have Z3 : n0 ≤ h3.size := Nat.le_trans Z2 (Nat.le_of_eq W3.size.symm)
  have B3 : Ext hB h3 := own_ext_wr B2 W3 gb_o0
  have E_o0_3 : Exa Z h3 o0 oNT := E_o0_2.wr W3
  have Kz3 : Keep h0 h3 [o0] := Kz2.wr W3 (Or.inl (List.mem_of_getElem? (i := 0) rfl))
  have N3 := Fr.snoc X3 N2 g_o0
  refine Goes.go st3 ?_
  show Goes p e below _ (T3.setTop (mkF m 14 #[.val (.ref o0), .val (.ref w1), .val v2, .val v3, .val .null, .val .null, .unset] []))
  refine Goes.go (fun t => XS.aloadN X3.here hx rfl (hb hby dFW_14) rfl rfl ) ?_
  refine Goes.go (fun t => XS.aloadN X3.here hx rfl (hb hby dFW_15) rfl (by assumption) ) ?_
  show Goes p e below _ (T3.setTop (mkF m 16 #[.val (.ref o0), .val (.ref w1), .val v2, .val v3, .val .null, .val .null, .unset] [v3, (.ref o0)]))
  obtain ⟨T4, h4, X4, e4, W4, st4⟩ := putF X3 hx hZ hown (host := "") (Or.inl (own_h hw 62 rfl)) Via.refl e3 F_localName_o0_3 E_o0_3 (Or.inr ⟨(own_h hw 63 rfl), rfl, hnm⟩) (own_h hw 49 rfl) (ty := (.object "java/lang/String")) (by decide) own_narrow (own_fits (by assumption)) (g := (mkF m 16 #[.val (.ref o0), .val (.ref w1), .val v2, .val v3, .val .null, .val .null, .unset] [v3, (.ref o0)])) rfl rfl (hb hby dFW_16)
  have F_kind_o0_4 : Fld Z h4 o0 oNT "kind" "Lcom/example/thames/thames/model/NodeKind;" (.ref w1) := F_kind_o0_3.other W4 (Or.inr (slot_ne (Or.inr (own_h hw 59 rfl)) (Or.inr (own_h hw 63 rfl)) (by decide) (t := (.object oNK)) (t' := (.object "java/lang/String")) (by decide) (by decide)))
  have F_namespaceUri_o0_4 : Fld Z h4 o0 oNT "namespaceUri" "Ljava/lang/String;" v2 := F_namespaceUri_o0_3.other W4 (Or.inr (slot_ne (Or.inr (own_h hw 61 rfl)) (Or.inr (own_h hw 63 rfl)) (by decide) (t := (.object "java/lang/String")) (t' := (.object "java/lang/String")) (by decide) (by decide)))
  have F_localName_o0_4 : Fld Z h4 o0 oNT "localName" "Ljava/lang/String;" v3 := F_localName_o0_3.same W4
  have F_type_o0_4 : Fld Z h4 o0 oNT "type" "Lcom/example/thames/thames/model/SchemaType;" .null := F_type_o0_3.other W4 (Or.inr (slot_ne (Or.inr (own_h hw 65 rfl)) (Or.inr (own_h hw 63 rfl)) (by decide) (t := (.object "com/example/thames/thames/model/SchemaType")) (t' := (.object "java/lang/String")) (by decide) (by decide)))
  have F_elementTest_o0_4 : Fld Z h4 o0 oNT "elementTest" "Lcom/example/thames/thames/engine/NodeTest;" .null := F_elementTest_o0_3.other W4 (Or.inr (slot_ne (Or.inr (own_h hw 67 rfl)) (Or.inr (own_h hw 63 rfl)) (by decide) (t := (.object oNT)) (t' := (.object "java/lang/String")) (by decide) (by decide)))
  have F_elementQuery_o0_4 : Fld Z h4 o0 oNT "elementQuery" "Lcom/example/thames/thames/model/ElementQuery;" .null := F_elementQuery_o0_3.other W4 (Or.inr (slot_ne (Or.inr (own_h hw 75 rfl)) (Or.inr (own_h hw 63 rfl)) (by decide) (t := (.object oEQ)) (t' := (.object "java/lang/String")) (by decide) (by decide)))
  have Z4 : n0 ≤ h4.size := Nat.le_trans Z3 (Nat.le_of_eq W4.size.symm)
  have B4 : Ext hB h4 := own_ext_wr B3 W4 gb_o0
  have E_o0_4 : Exa Z h4 o0 oNT := E_o0_3.wr W4
  have Kz4 : Keep h0 h4 [o0] := Kz3.wr W4 (Or.inl (List.mem_of_getElem? (i := 0) rfl))
  have N4 := Fr.snoc X4 N3 g_o0
  refine Goes.go st4 ?_
  show Goes p e below _ (T4.setTop (mkF m 19 #[.val (.ref o0), .val (.ref w1), .val v2, .val v3, .val .null, .val .null, .unset] []))
  refine Goes.go (fun t => XS.aloadN X4.here hx rfl (hb hby dFW_19) rfl rfl ) ?_
  refine Goes.go (fun t => XS.aload X4.here hx rfl (hb hby dFW_20) rfl rfl ) ?_
  show Goes p e below _ (T4.setTop (mkF m 22 #[.val (.ref o0), .val (.ref w1), .val v2, .val v3, .val .null, .val .null, .unset] [.null, (.ref o0)]))
  obtain ⟨T5, h5, X5, e5, W5, st5⟩ := putF X4 hx hZ hown (host := "") (Or.inl (own_h hw 64 rfl)) Via.refl e4 F_type_o0_4 E_o0_4 (Or.inr ⟨(own_h hw 65 rfl), rfl, hnm⟩) (own_h hw 49 rfl) (ty := (.object "com/example/thames/thames/model/SchemaType")) (by decide) rfl rfl (g := (mkF m 22 #[.val (.ref o0), .val (.ref w1), .val v2, .val v3, .val .null, .val .null, .unset] [.null, (.ref o0)])) rfl rfl (hb hby dFW_22)
  have F_kind_o0_5 : Fld Z h5 o0 oNT "kind" "Lcom/example/thames/thames/model/NodeKind;" (.ref w1) := F_kind_o0_4.other W5 (Or.inr (slot_ne (Or.inr (own_h hw 59 rfl)) (Or.inr (own_h hw 65 rfl)) (by decide) (t := (.object oNK)) (t' := (.object "com/example/thames/thames/model/SchemaType")) (by decide) (by decide)))
  have F_namespaceUri_o0_5 : Fld Z h5 o0 oNT "namespaceUri" "Ljava/lang/String;" v2 := F_namespaceUri_o0_4.other W5 (Or.inr (slot_ne (Or.inr (own_h hw 61 rfl)) (Or.inr (own_h hw 65 rfl)) (by decide) (t := (.object "java/lang/String")) (t' := (.object "com/example/thames/thames/model/SchemaType")) (by decide) (by decide)))
  have F_localName_o0_5 : Fld Z h5 o0 oNT "localName" "Ljava/lang/String;" v3 := F_localName_o0_4.other W5 (Or.inr (slot_ne (Or.inr (own_h hw 63 rfl)) (Or.inr (own_h hw 65 rfl)) (by decide) (t := (.object "java/lang/String")) (t' := (.object "com/example/thames/thames/model/SchemaType")) (by decide) (by decide)))
  have F_type_o0_5 : Fld Z h5 o0 oNT "type" "Lcom/example/thames/thames/model/SchemaType;" .null := F_type_o0_4.same W5
  have F_elementTest_o0_5 : Fld Z h5 o0 oNT "elementTest" "Lcom/example/thames/thames/engine/NodeTest;" .null := F_elementTest_o0_4.other W5 (Or.inr (slot_ne (Or.inr (own_h hw 67 rfl)) (Or.inr (own_h hw 65 rfl)) (by decide) (t := (.object oNT)) (t' := (.object "com/example/thames/thames/model/SchemaType")) (by decide) (by decide)))
  have F_elementQuery_o0_5 : Fld Z h5 o0 oNT "elementQuery" "Lcom/example/thames/thames/model/ElementQuery;" .null := F_elementQuery_o0_4.other W5 (Or.inr (slot_ne (Or.inr (own_h hw 75 rfl)) (Or.inr (own_h hw 65 rfl)) (by decide) (t := (.object oEQ)) (t' := (.object "com/example/thames/thames/model/SchemaType")) (by decide) (by decide)))
  have Z5 : n0 ≤ h5.size := Nat.le_trans Z4 (Nat.le_of_eq W5.size.symm)
  have B5 : Ext hB h5 := own_ext_wr B4 W5 gb_o0
  have E_o0_5 : Exa Z h5 o0 oNT := E_o0_4.wr W5
  have Kz5 : Keep h0 h5 [o0] := Kz4.wr W5 (Or.inl (List.mem_of_getElem? (i := 0) rfl))
  have N5 := Fr.snoc X5 N4 g_o0
  refine Goes.go st5 ?_
  show Goes p e below _ (T5.setTop (mkF m 25 #[.val (.ref o0), .val (.ref w1), .val v2, .val v3, .val .null, .val .null, .unset] []))
  refine Goes.go (fun t => XS.aloadN X5.here hx rfl (hb hby dFW_25) rfl rfl ) ?_
  refine Goes.go (fun t => XS.aload X5.here hx rfl (hb hby dFW_26) rfl rfl ) ?_
  show Goes p e below _ (T5.setTop (mkF m 28 #[.val (.ref o0), .val (.ref w1), .val v2, .val v3, .val .null, .val .null, .unset] [.null, (.ref o0)]))
  obtain ⟨T6, h6, X6, e6, W6, st6⟩ := putF X5 hx hZ hown (host := "") (Or.inl (own_h hw 66 rfl)) Via.refl e5 F_elementTest_o0_5 E_o0_5 (Or.inr ⟨(own_h hw 67 rfl), rfl, hnm⟩) (own_h hw 49 rfl) (ty := (.object oNT)) (by decide) rfl rfl (g := (mkF m 28 #[.val (.ref o0), .val (.ref w1), .val v2, .val v3, .val .null, .val .null, .unset] [.null, (.ref o0)])) rfl rfl (hb hby dFW_28)
  have F_kind_o0_6 : Fld Z h6 o0 oNT "kind" "Lcom/example/thames/thames/model/NodeKind;" (.ref w1) := F_kind_o0_5.other W6 (Or.inr (slot_ne (Or.inr (own_h hw 59 rfl)) (Or.inr (own_h hw 67 rfl)) (by decide) (t := (.object oNK)) (t' := (.object oNT)) (by decide) (by decide)))
  have F_namespaceUri_o0_6 : Fld Z h6 o0 oNT "namespaceUri" "Ljava/lang/String;" v2 := F_namespaceUri_o0_5.other W6 (Or.inr (slot_ne (Or.inr (own_h hw 61 rfl)) (Or.inr (own_h hw 67 rfl)) (by decide) (t := (.object "java/lang/String")) (t' := (.object oNT)) (by decide) (by decide)))
  have F_localName_o0_6 : Fld Z h6 o0 oNT "localName" "Ljava/lang/String;" v3 := F_localName_o0_5.other W6 (Or.inr (slot_ne (Or.inr (own_h hw 63 rfl)) (Or.inr (own_h hw 67 rfl)) (by decide) (t := (.object "java/lang/String")) (t' := (.object oNT)) (by decide) (by decide)))
  have F_type_o0_6 : Fld Z h6 o0 oNT "type" "Lcom/example/thames/thames/model/SchemaType;" .null := F_type_o0_5.other W6 (Or.inr (slot_ne (Or.inr (own_h hw 65 rfl)) (Or.inr (own_h hw 67 rfl)) (by decide) (t := (.object "com/example/thames/thames/model/SchemaType")) (t' := (.object oNT)) (by decide) (by decide)))
  have F_elementTest_o0_6 : Fld Z h6 o0 oNT "elementTest" "Lcom/example/thames/thames/engine/NodeTest;" .null := F_elementTest_o0_5.same W6
  have F_elementQuery_o0_6 : Fld Z h6 o0 oNT "elementQuery" "Lcom/example/thames/thames/model/ElementQuery;" .null := F_elementQuery_o0_5.other W6 (Or.inr (slot_ne (Or.inr (own_h hw 75 rfl)) (Or.inr (own_h hw 67 rfl)) (by decide) (t := (.object oEQ)) (t' := (.object oNT)) (by decide) (by decide)))
  have Z6 : n0 ≤ h6.size := Nat.le_trans Z5 (Nat.le_of_eq W6.size.symm)
  have B6 : Ext hB h6 := own_ext_wr B5 W6 gb_o0
  have E_o0_6 : Exa Z h6 o0 oNT := E_o0_5.wr W6
  have Kz6 : Keep h0 h6 [o0] := Kz5.wr W6 (Or.inl (List.mem_of_getElem? (i := 0) rfl))
  have N6 := Fr.snoc X6 N5 g_o0
  refine Goes.go st6 ?_
  show Goes p e below _ (T6.setTop (mkF m 31 #[.val (.ref o0), .val (.ref w1), .val v2, .val v3, .val .null, .val .null, .unset] []))
  refine Goes.go (fun t => XS.aconstNull X6.here hx rfl (hb hby dFW_31)) ?_
  refine Goes.go (fun t => XS.astore X6.here hx rfl (hb hby dFW_32) rfl rfl (l' := #[.val (.ref o0), .val (.ref w1), .val v2, .val v3, .val .null, .val .null, .val .null]) rfl) ?_
  refine Goes.go (fun t => XS.aloadN X6.here hx rfl (hb hby dFW_34) rfl rfl ) ?_
  show Goes p e below _ (T6.setTop (mkF m 35 #[.val (.ref o0), .val (.ref w1), .val v2, .val v3, .val .null, .val .null, .val .null] [(.ref o0)]))
  obtain ⟨cq7, q7, q7'⟩ := E_o0_6.cell
  obtain ⟨_, _, ⟨T7, L7, k7, n7⟩, -, X7, ⟨Lc7, hQ7, l7, y7, z7⟩, st7⟩ := X6.privateBack hx (y := (⟨oNT, "testsElementNameAlone", "()Z"⟩ : MethodName)) hown (mvT hZ (own_h hw 68 rfl)) (mvT hZ (own_h hw 69 rfl)) (own_selects (by decide) (mvT hZ (own_h hw 49 rfl)) (mvT hZ (own_h hw 69 rfl)) (mvP hZ (own_h hw 70 rfl))) (Cond.privateMethod_at (mvP hZ (own_h hw 70 rfl) (args := #[]))) (mvT hZ (own_h hw 71 rfl)) (by decide) (backOf (W := 0) (rmTW l Z a0 hw [] o0 wE w1 h6 n0 Z6 F_kind_o0_6 F_type_o0_6 F_elementTest_o0_6 (S_E.ext B6) hne) hZ (own_h hw 71 rfl) (own_h hw 50 rfl) (by decide) (by decide)) (g := (mkF m 35 #[.val (.ref o0), .val (.ref w1), .val v2, .val v3, .val .null, .val .null, .val .null] [(.ref o0)])) rfl (by rw [hml]; rfl) (Steps.refl _) (a := o0) (by rw [e6]; exact q7) q7' (argsL := []) (rest := []) (lenOf pdFW_0 rfl) rfl (by show 2 * 0 + _ ≤ _; exact Nat.le_of_eq rfl) (hb hby dFW_35) (fun _ _ => ⟨rfl, e6, (by decide : 0 + 0 ≤ _), (by decide : 0 + 0 ≤ _)⟩)
  dsimp only [Pt.U, Pt.locs, Pt.cells, Pt.slots] at X7 l7 y7 z7 st7 hQ7
  subst l7 y7 z7
  obtain ⟨rfl, N7q, e7q⟩ := hQ7
  have N7 := Fr.app N6 N7q
  refine Goes.via st7 ?_
  show Goes p e below _ (T7.setTop (mkF m 38 #[.val (.ref o0), .val (.ref w1), .val v2, .val v3, .val .null, .val .null, .val .null] [(.int (0 : Int32))]))
  refine Goes.go (fun t => XS.ifYes X7.here hx rfl (pc0 := 38) (pc' := 48) rfl (hb hby dFW_38) rfl (Jvm.Free.XT.i0_eq_t (by decide)) (by decide) (by decide)) ?_
  show Goes p e below _ (T7.setTop (mkF m 48 #[.val (.ref o0), .val (.ref w1), .val v2, .val v3, .val .null, .val .null, .val .null] []))
  refine Goes.go (fun t => XS.aloadN X7.here hx rfl (hb hby dFW_48) rfl rfl ) ?_
  refine Goes.go (fun t => XS.aload X7.here hx rfl (hb hby dFW_49) rfl rfl ) ?_
  show Goes p e below _ (T7.setTop (mkF m 51 #[.val (.ref o0), .val (.ref w1), .val v2, .val v3, .val .null, .val .null, .val .null] [.null, (.ref o0)]))
  obtain ⟨T8, h8, X8, e8, W8, st8⟩ := putF X7 hx hZ hown (host := "") (Or.inl (own_h hw 74 rfl)) Via.refl e7q F_elementQuery_o0_6 E_o0_6 (Or.inr ⟨(own_h hw 75 rfl), rfl, hnm⟩) (own_h hw 49 rfl) (ty := (.object oEQ)) (by decide) rfl rfl (g := (mkF m 51 #[.val (.ref o0), .val (.ref w1), .val v2, .val v3, .val .null, .val .null, .val .null] [.null, (.ref o0)])) rfl rfl (hb hby dFW_51)
  have F_kind_o0_8 : Fld Z h8 o0 oNT "kind" "Lcom/example/thames/thames/model/NodeKind;" (.ref w1) := F_kind_o0_6.other W8 (Or.inr (slot_ne (Or.inr (own_h hw 59 rfl)) (Or.inr (own_h hw 75 rfl)) (by decide) (t := (.object oNK)) (t' := (.object oEQ)) (by decide) (by decide)))
  have F_namespaceUri_o0_8 : Fld Z h8 o0 oNT "namespaceUri" "Ljava/lang/String;" v2 := F_namespaceUri_o0_6.other W8 (Or.inr (slot_ne (Or.inr (own_h hw 61 rfl)) (Or.inr (own_h hw 75 rfl)) (by decide) (t := (.object "java/lang/String")) (t' := (.object oEQ)) (by decide) (by decide)))
  have F_localName_o0_8 : Fld Z h8 o0 oNT "localName" "Ljava/lang/String;" v3 := F_localName_o0_6.other W8 (Or.inr (slot_ne (Or.inr (own_h hw 63 rfl)) (Or.inr (own_h hw 75 rfl)) (by decide) (t := (.object "java/lang/String")) (t' := (.object oEQ)) (by decide) (by decide)))
  have F_type_o0_8 : Fld Z h8 o0 oNT "type" "Lcom/example/thames/thames/model/SchemaType;" .null := F_type_o0_6.other W8 (Or.inr (slot_ne (Or.inr (own_h hw 65 rfl)) (Or.inr (own_h hw 75 rfl)) (by decide) (t := (.object "com/example/thames/thames/model/SchemaType")) (t' := (.object oEQ)) (by decide) (by decide)))
  have F_elementTest_o0_8 : Fld Z h8 o0 oNT "elementTest" "Lcom/example/thames/thames/engine/NodeTest;" .null := F_elementTest_o0_6.other W8 (Or.inr (slot_ne (Or.inr (own_h hw 67 rfl)) (Or.inr (own_h hw 75 rfl)) (by decide) (t := (.object oNT)) (t' := (.object oEQ)) (by decide) (by decide)))
  have F_elementQuery_o0_8 : Fld Z h8 o0 oNT "elementQuery" "Lcom/example/thames/thames/model/ElementQuery;" .null := F_elementQuery_o0_6.same W8
  have Z8 : n0 ≤ h8.size := Nat.le_trans Z6 (Nat.le_of_eq W8.size.symm)
  have B8 : Ext hB h8 := own_ext_wr B6 W8 gb_o0
  have E_o0_8 : Exa Z h8 o0 oNT := E_o0_6.wr W8
  have Kz8 : Keep h0 h8 [o0] := Kz6.wr W8 (Or.inl (List.mem_of_getElem? (i := 0) rfl))
  have N8 := Fr.snoc X8 N7 g_o0
  refine Goes.go st8 ?_
  show Goes p e below _ (T8.setTop (mkF m 54 #[.val (.ref o0), .val (.ref w1), .val v2, .val v3, .val .null, .val .null, .val .null] []))
  exact Goes.out X8 (fun _ => rfl) Bd.notSynchronized (fun fs hr => X8.returnOut hx Bd.returns (hb hby dFW_54) hr) (by rw [e8]; exact ⟨rfl, N8, Kz8, F_kind_o0_8, F_namespaceUri_o0_8, F_localName_o0_8, F_type_o0_8, F_elementTest_o0_8, F_elementQuery_o0_8⟩) (by decide) (by decide)
theorem dTE3_0 : decode prog_106_method_1_code 0 = .ok (.aload_n 0, 1) := by decide +kernel
theorem dTE3_1 : decode prog_106_method_1_code 1 = .ok (.aload_n 1, 1) := by decide +kernel
theorem dTE3_2 : decode prog_106_method_1_code 2 = .ok (.aload_n 2, 1) := by decide +kernel
theorem dTE3_3 : decode prog_106_method_1_code 3 = .ok (.aload_n 3, 1) := by decide +kernel
theorem dTE3_4 : decode prog_106_method_1_code 4 = .ok (.aconst_null, 1) := by decide +kernel
theorem dTE3_5 : decode prog_106_method_1_code 5 = .ok (.aconst_null, 1) := by decide +kernel
theorem dTE3_6 : decode prog_106_method_1_code 6 = .ok (.invokespecial 1, 3) := by decide +kernel
theorem dTE3_9 : decode prog_106_method_1_code 9 = .ok (.return_, 1) := by decide +kernel
theorem pn_TE3 : plainName oNT = true := by first | (simp [plainName, overriddenIn]; done) | decide +kernel
theorem pdTE3_0 : parseMethodDescriptor "(Lcom/example/thames/thames/model/NodeKind;Ljava/lang/String;Ljava/lang/String;Lcom/example/thames/thames/model/SchemaType;Lcom/example/thames/thames/engine/NodeTest;)V" = some ⟨[(.object oNK), (.object "java/lang/String"), (.object "java/lang/String"), (.object "com/example/thames/thames/model/SchemaType"), (.object oNT)], none⟩ := by decide +kernel
theorem ef_TE3 (m : MethodId) (o0 : Addr) (wE : Addr) (v2 : Value) (v3 : Value) (r_v2 : v2.isRef = true) (r_v3 : v3.isRef = true) : entryFrame m #[(.ref o0), (.ref wE), v2, v3] 4 = mkF m 0 #[.val (.ref o0), .val (.ref wE), .val v2, .val v3] [] := by rcases ref_cases r_v2 with rfl | ⟨_, rfl⟩ <;> rcases ref_cases r_v3 with rfl | ⟨_, rfl⟩ <;> first | (simp [entryFrame, mkF, argsToLocals, Value.category]; done) | rfl
def QTE3 (Z : State) (o0 : Addr) (wE : Addr) (v2 : Value) (v3 : Value) (z : Int32) (fm : Value) (wS : Addr) (wN : Addr) (cS : Cell) (cN : Cell) (hB : Heap) (h0 : Heap) (n0 : Nat) (v : Option Value) (h : Heap) (L : List Loc) : Prop := v = none ∧ Fr n0 L ∧ Keep h0 h [o0] ∧ Fld Z h o0 oNT "kind" "Lcom/example/thames/thames/model/NodeKind;" (.ref wE) ∧ ∃ q : Addr, Fld Z h o0 oNT "elementQuery" "Lcom/example/thames/thames/model/ElementQuery;" (.ref q)
set_option maxRecDepth 65536 in
set_option maxHeartbeats 40000000 in
theorem rmTE3 (l : Launch) (Z : State) (a0 : Array Value) (hw : ∀ d ∈ tables_1, d.before a0 Z = true) (ws : List Jvm.Cond) (o0 : Addr) (wE : Addr) (v2 : Value) (v3 : Value) (z : Int32) (fm : Value) (wS : Addr) (wN : Addr) (cS : Cell) (cN : Cell) (hB : Heap) (h0 : Heap) (n0 : Nat) (Z0 : n0 ≤ h0.size) (r_v2 : v2.isRef = true) (r_v3 : v3.isRef = true) (B0 : Ext hB h0) (gb_o0 : hB.size ≤ o0) (g_o0 : n0 ≤ o0) (S_E : Sta Z hB oNK "ELEMENT" "Lcom/example/thames/thames/model/NodeKind;" (.ref wE)) (E_o0 : Exa Z h0 o0 oNT) (F_kind : Fld Z h0 o0 oNT "kind" "Lcom/example/thames/thames/model/NodeKind;" .null) (F_namespaceUri : Fld Z h0 o0 oNT "namespaceUri" "Ljava/lang/String;" .null) (F_localName : Fld Z h0 o0 oNT "localName" "Ljava/lang/String;" .null) (F_type : Fld Z h0 o0 oNT "type" "Lcom/example/thames/thames/model/SchemaType;" .null) (F_elementTest : Fld Z h0 o0 oNT "elementTest" "Lcom/example/thames/thames/engine/NodeTest;" .null) (F_elementQuery : Fld Z h0 o0 oNT "elementQuery" "Lcom/example/thames/thames/model/ElementQuery;" .null) (V : own_env Z hB z fm wS wN cS cN) (hv2 : own_nsv Z hB v2) (hv3 : own_lnv Z hB v3) :
    MetFree l (⟨oNT, "<init>", "(Lcom/example/thames/thames/model/NodeKind;Ljava/lang/String;Ljava/lang/String;)V"⟩ : MethodName) (head1 (Jvm.Cond.code (⟨oNT, "<init>", "(Lcom/example/thames/thames/model/NodeKind;Ljava/lang/String;Ljava/lang/String;)V"⟩ : MethodName) prog_106_method_1_code 4 none :: ws) (oR 10 14 277 143)) (fun a U => a = #[(.ref o0), (.ref wE), v2, v3] ∧ Z.Warmed39 U.vm ∧ U.heap = h0 ∧ CHv Z own_EL U.vm h0) (fun _ _ _ _ _ => True) (fun _ U o U' => ∃ v L, o = .returned v ∧ QTE3 Z o0 wE v2 v3 z fm wS wN cS cN hB h0 n0 v U'.heap L ∧ CHr Z own_EL U.vm U.heap U'.vm U'.heap ∧ ReturnedEndW U o U' L (oR 10 14 277 143).cells (oR 10 14 277 143).slots) := by
  refine MetFree.of_bodySF (plainFor_of_name pn_TE3) hisR ?_
  intro p e s m args below meth c s₁ Bd hml0 hP hK
  obtain ⟨rfl, hZ, hh, CH⟩ := hP
  have hx := Bd.exec
  have hby := Bd.bytes
  have hml : c.maxLocals = 4 := hml0
  have hown : (s.setVm s.vm).vm.findClass oNT = some m.cls := findClass_of_methodNamed Bd.named
  have hnm := (name_of_methodNamed Bd.named Bd.method).1
  have X0 : Stand p l e (oR 10 14 277 143) (s.setVm s.vm) m #[(.ref o0), (.ref wE), v2, v3] below meth c s₁ [] 0 0 := Stand.of_body Bd
  have e0 : s₁.heap = h0 := by rw [← hh, Bd.state]; rfl
  have N0 := Fr.nil n0
  have hZ : Z.Warmed39 (s.setVm s.vm).vm := hZ
  have hS : s.Since s.vm h0.size := (State.WarmedH.refl s).since _
  have hk : h0.size ≤ h0.size := Nat.le_refl _
  have CR0 : CHr Z own_EL s.vm h0 s.vm h0 := CHr.refl CH
  show Goes p e below (fun o U' => ∃ v L, o = .returned v ∧ QTE3 Z o0 wE v2 v3 z fm wS wN cS cN hB h0 n0 v U'.heap L ∧ CHr Z own_EL s.vm s.heap U'.vm U'.heap ∧ ReturnedEndW s o U' L (oR 10 14 277 143).cells (oR 10 14 277 143).slots) _
  refine Goes.go (fun t k => castTop (ef_TE3 m o0 wE v2 v3 r_v2 r_v3) k) ?_
  show Goes p e below _ (s₁.setTop (mkF m 0 #[.val (.ref o0), .val (.ref wE), .val v2, .val v3] []))
  refine Goes.go (fun t => XS.aloadN X0.here hx rfl (hb hby dTE3_0) rfl rfl ) ?_
  refine Goes.go (fun t => XS.aloadN X0.here hx rfl (hb hby dTE3_1) rfl rfl ) ?_
  refine Goes.go (fun t => XS.aloadN X0.here hx rfl (hb hby dTE3_2) rfl (by assumption) ) ?_
  refine Goes.go (fun t => XS.aloadN X0.here hx rfl (hb hby dTE3_3) rfl (by assumption) ) ?_
  show Goes p e below _ (s₁.setTop (mkF m 4 #[.val (.ref o0), .val (.ref wE), .val v2, .val v3] [v3, v2, (.ref wE), (.ref o0)]))
  refine Goes.go (fun t => XS.aconstNull X0.here hx rfl (hb hby dTE3_4)) ?_
  refine Goes.go (fun t => XS.aconstNull X0.here hx rfl (hb hby dTE3_5)) ?_
  show Goes p e below _ (s₁.setTop (mkF m 6 #[.val (.ref o0), .val (.ref wE), .val v2, .val v3] [.null, .null, v3, v2, (.ref wE), (.ref o0)]))
  obtain ⟨_, _, ⟨T1, L1, k1, n1⟩, -, X1, hS1, hg1, ⟨Lc1, hQ1, l1, y1, z1, CQ1⟩, st1⟩ := X0.specialBackS hx (y := (⟨oNT, "<init>", "(Lcom/example/thames/thames/model/NodeKind;Ljava/lang/String;Ljava/lang/String;Lcom/example/thames/thames/model/SchemaType;Lcom/example/thames/thames/engine/NodeTest;)V"⟩ : MethodName)) rfl hown (mvT hZ (own_h hw 54 rfl)) (mvT hZ (own_h hw 55 rfl)) (mvT hZ (own_h hw 56 rfl)) (by decide) (backOfSH (s := s) (vm0 := s.vm) (W := 0) (rmFE l Z a0 hw [] o0 wE v2 v3 z fm wS wN cS cN hB h0 n0 Z0 r_v2 r_v3 B0 gb_o0 g_o0 S_E E_o0 F_kind F_namespaceUri F_localName F_type F_elementTest F_elementQuery V hv2 hv3) hZ (own_h hw 56 rfl) (own_h hw 50 rfl) (by decide) (by decide) (own_ew hw) CH) (g := (mkF m 6 #[.val (.ref o0), .val (.ref wE), .val v2, .val v3] [.null, .null, v3, v2, (.ref wE), (.ref o0)])) rfl (by rw [hml]; rfl) (Steps.refl _) (a := o0) (argsL := [(.ref wE), v2, v3, .null, .null]) (rest := []) (lenOf pdTE3_0 rfl) rfl (by show 2 * 0 + _ ≤ _; exact Nat.le_of_eq rfl) (hb hby dTE3_6) (fun _ _ => ⟨rfl, e0, (by decide : 0 + 14 ≤ _), (by decide : 0 + 277 ≤ _)⟩)
  dsimp only [Pt.U, Pt.locs, Pt.cells, Pt.slots] at X1 hS1 hg1 l1 y1 z1 st1 hQ1 CQ1
  subst l1 y1 z1
  obtain ⟨rfl, N1q, hr1⟩ := hQ1
  have N1 := Fr.app N0 N1q
  obtain ⟨X1, hS, hZ, hown⟩ := rebS (n1 := s₁.heap.size) hS (by rw [e0]; exact hk) X1 hS1 hg1 hZ hown
  have hk : T1.heap.size ≤ T1.heap.size := Nat.le_refl _
  have CH1 := CQ1.1
  have CR1 := CR0.trans CQ1
  refine Goes.via st1 ?_
  show Goes p e below _ (T1.setTop (mkF m 9 #[.val (.ref o0), .val (.ref wE), .val v2, .val v3] []))
  exact Goes.outW X1 hS hk (fun _ => rfl) Bd.notSynchronized (fun fs hr => X1.returnOut hx Bd.returns (hb hby dTE3_9) hr) ⟨rfl, N1, hr1⟩ (by rw [hh]; exact CR1.trans (CHv.at X1 hZ (own_ew hw) CH1)) (by decide) (by decide)
theorem dTN3_0 : decode prog_106_method_1_code 0 = .ok (.aload_n 0, 1) := by decide +kernel
theorem dTN3_1 : decode prog_106_method_1_code 1 = .ok (.aload_n 1, 1) := by decide +kernel
theorem dTN3_2 : decode prog_106_method_1_code 2 = .ok (.aload_n 2, 1) := by decide +kernel
theorem dTN3_3 : decode prog_106_method_1_code 3 = .ok (.aload_n 3, 1) := by decide +kernel
theorem dTN3_4 : decode prog_106_method_1_code 4 = .ok (.aconst_null, 1) := by decide +kernel
theorem dTN3_5 : decode prog_106_method_1_code 5 = .ok (.aconst_null, 1) := by decide +kernel
theorem dTN3_6 : decode prog_106_method_1_code 6 = .ok (.invokespecial 1, 3) := by decide +kernel
theorem dTN3_9 : decode prog_106_method_1_code 9 = .ok (.return_, 1) := by decide +kernel
theorem pn_TN3 : plainName oNT = true := by first | (simp [plainName, overriddenIn]; done) | decide +kernel
theorem pdTN3_0 : parseMethodDescriptor "(Lcom/example/thames/thames/model/NodeKind;Ljava/lang/String;Ljava/lang/String;Lcom/example/thames/thames/model/SchemaType;Lcom/example/thames/thames/engine/NodeTest;)V" = some ⟨[(.object oNK), (.object "java/lang/String"), (.object "java/lang/String"), (.object "com/example/thames/thames/model/SchemaType"), (.object oNT)], none⟩ := by decide +kernel
theorem ef_TN3 (m : MethodId) (o0 : Addr) (v2 : Value) (v3 : Value) (r_v2 : v2.isRef = true) (r_v3 : v3.isRef = true) : entryFrame m #[(.ref o0), .null, v2, v3] 4 = mkF m 0 #[.val (.ref o0), .val .null, .val v2, .val v3] [] := by rcases ref_cases r_v2 with rfl | ⟨_, rfl⟩ <;> rcases ref_cases r_v3 with rfl | ⟨_, rfl⟩ <;> first | (simp [entryFrame, mkF, argsToLocals, Value.category]; done) | rfl
def QTN3 (Z : State) (o0 : Addr) (v2 : Value) (v3 : Value) (wE : Addr) (hB : Heap) (h0 : Heap) (n0 : Nat) (v : Option Value) (h : Heap) (L : List Loc) : Prop := v = none ∧ Fr n0 L ∧ Keep h0 h [o0] ∧ Fld Z h o0 oNT "kind" "Lcom/example/thames/thames/model/NodeKind;" .null ∧ Fld Z h o0 oNT "namespaceUri" "Ljava/lang/String;" v2 ∧ Fld Z h o0 oNT "localName" "Ljava/lang/String;" v3 ∧ Fld Z h o0 oNT "type" "Lcom/example/thames/thames/model/SchemaType;" .null ∧ Fld Z h o0 oNT "elementTest" "Lcom/example/thames/thames/engine/NodeTest;" .null ∧ Fld Z h o0 oNT "elementQuery" "Lcom/example/thames/thames/model/ElementQuery;" .null
set_option maxRecDepth 65536 in
set_option maxHeartbeats 40000000 in
theorem rmTN3 (l : Launch) (Z : State) (a0 : Array Value) (hw : ∀ d ∈ tables_1, d.before a0 Z = true) (ws : List Jvm.Cond) (o0 : Addr) (v2 : Value) (v3 : Value) (wE : Addr) (hB : Heap) (h0 : Heap) (n0 : Nat) (Z0 : n0 ≤ h0.size) (r_v2 : v2.isRef = true) (r_v3 : v3.isRef = true) (B0 : Ext hB h0) (gb_o0 : hB.size ≤ o0) (g_o0 : n0 ≤ o0) (S_E : Sta Z hB oNK "ELEMENT" "Lcom/example/thames/thames/model/NodeKind;" (.ref wE)) (E_o0 : Exa Z h0 o0 oNT) (F_kind : Fld Z h0 o0 oNT "kind" "Lcom/example/thames/thames/model/NodeKind;" .null) (F_namespaceUri : Fld Z h0 o0 oNT "namespaceUri" "Ljava/lang/String;" .null) (F_localName : Fld Z h0 o0 oNT "localName" "Ljava/lang/String;" .null) (F_type : Fld Z h0 o0 oNT "type" "Lcom/example/thames/thames/model/SchemaType;" .null) (F_elementTest : Fld Z h0 o0 oNT "elementTest" "Lcom/example/thames/thames/engine/NodeTest;" .null) (F_elementQuery : Fld Z h0 o0 oNT "elementQuery" "Lcom/example/thames/thames/model/ElementQuery;" .null) :
    MetFree l (⟨oNT, "<init>", "(Lcom/example/thames/thames/model/NodeKind;Ljava/lang/String;Ljava/lang/String;)V"⟩ : MethodName) (head1 (Jvm.Cond.code (⟨oNT, "<init>", "(Lcom/example/thames/thames/model/NodeKind;Ljava/lang/String;Ljava/lang/String;)V"⟩ : MethodName) prog_106_method_1_code 4 none :: ws) (oR 2 0 0 30)) (fun a U => a = #[(.ref o0), .null, v2, v3] ∧ Z.Warmed39 U.vm ∧ U.heap = h0) (fun _ _ _ _ _ => True) (fun _ U o U' => ∃ v L, o = .returned v ∧ QTN3 Z o0 v2 v3 wE hB h0 n0 v U'.heap L ∧ FrameEnd U o U' L (oR 2 0 0 30).cells (oR 2 0 0 30).slots) := by
  refine MetFree.of_bodySF (plainFor_of_name pn_TN3) hisR ?_
  intro p e s m args below meth c s₁ Bd hml0 hP hK
  obtain ⟨rfl, hZ, hh⟩ := hP
  have hx := Bd.exec
  have hby := Bd.bytes
  have hml : c.maxLocals = 4 := hml0
  have hown : s.vm.findClass oNT = some m.cls := findClass_of_methodNamed Bd.named
  have hnm := (name_of_methodNamed Bd.named Bd.method).1
  have X0 : Stand p l e (oR 2 0 0 30) s m #[(.ref o0), .null, v2, v3] below meth c s₁ [] 0 0 := Stand.of_body Bd
  have e0 : s₁.heap = h0 := by rw [← hh, Bd.state]; rfl
  have N0 := Fr.nil n0
  show Goes p e below (fun o U' => ∃ v L, o = .returned v ∧ QTN3 Z o0 v2 v3 wE hB h0 n0 v U'.heap L ∧ FrameEnd s o U' L (oR 2 0 0 30).cells (oR 2 0 0 30).slots) _
  refine Goes.go (fun t k => castTop (ef_TN3 m o0 v2 v3 r_v2 r_v3) k) ?_
  show Goes p e below _ (s₁.setTop (mkF m 0 #[.val (.ref o0), .val .null, .val v2, .val v3] []))
  refine Goes.go (fun t => XS.aloadN X0.here hx rfl (hb hby dTN3_0) rfl rfl ) ?_
  refine Goes.go (fun t => XS.aloadN X0.here hx rfl (hb hby dTN3_1) rfl rfl ) ?_
  refine Goes.go (fun t => XS.aloadN X0.here hx rfl (hb hby dTN3_2) rfl (by assumption) ) ?_
  refine Goes.go (fun t => XS.aloadN X0.here hx rfl (hb hby dTN3_3) rfl (by assumption) ) ?_
  show Goes p e below _ (s₁.setTop (mkF m 4 #[.val (.ref o0), .val .null, .val v2, .val v3] [v3, v2, .null, (.ref o0)]))
  refine Goes.go (fun t => XS.aconstNull X0.here hx rfl (hb hby dTN3_4)) ?_
  refine Goes.go (fun t => XS.aconstNull X0.here hx rfl (hb hby dTN3_5)) ?_
  show Goes p e below _ (s₁.setTop (mkF m 6 #[.val (.ref o0), .val .null, .val v2, .val v3] [.null, .null, v3, v2, .null, (.ref o0)]))
  obtain ⟨_, _, ⟨T1, L1, k1, n1⟩, -, X1, ⟨Lc1, hQ1, l1, y1, z1⟩, st1⟩ := X0.specialBack hx (y := (⟨oNT, "<init>", "(Lcom/example/thames/thames/model/NodeKind;Ljava/lang/String;Ljava/lang/String;Lcom/example/thames/thames/model/SchemaType;Lcom/example/thames/thames/engine/NodeTest;)V"⟩ : MethodName)) rfl hown (mvT hZ (own_h hw 54 rfl)) (mvT hZ (own_h hw 55 rfl)) (mvT hZ (own_h hw 56 rfl)) (by decide) (backOf (W := 0) (rmFN l Z a0 hw [] o0 v2 v3 wE hB h0 n0 Z0 r_v2 r_v3 B0 gb_o0 g_o0 S_E E_o0 F_kind F_namespaceUri F_localName F_type F_elementTest F_elementQuery) hZ (own_h hw 56 rfl) (own_h hw 50 rfl) (by decide) (by decide)) (g := (mkF m 6 #[.val (.ref o0), .val .null, .val v2, .val v3] [.null, .null, v3, v2, .null, (.ref o0)])) rfl (by rw [hml]; rfl) (Steps.refl _) (a := o0) (argsL := [.null, v2, v3, .null, .null]) (rest := []) (lenOf pdTN3_0 rfl) rfl (by show 2 * 0 + _ ≤ _; exact Nat.le_of_eq rfl) (hb hby dTN3_6) (fun _ _ => ⟨rfl, e0, (by decide : 0 + 0 ≤ _), (by decide : 0 + 0 ≤ _)⟩)
  dsimp only [Pt.U, Pt.locs, Pt.cells, Pt.slots] at X1 l1 y1 z1 st1 hQ1
  subst l1 y1 z1
  obtain ⟨rfl, N1q, hr1⟩ := hQ1
  have N1 := Fr.app N0 N1q
  refine Goes.via st1 ?_
  show Goes p e below _ (T1.setTop (mkF m 9 #[.val (.ref o0), .val .null, .val v2, .val v3] []))
  exact Goes.out X1 (fun _ => rfl) Bd.notSynchronized (fun fs hr => X1.returnOut hx Bd.returns (hb hby dTN3_9) hr) ⟨rfl, N1, hr1⟩ (by decide) (by decide)
theorem dTW3_0 : decode prog_106_method_1_code 0 = .ok (.aload_n 0, 1) := by decide +kernel
theorem dTW3_1 : decode prog_106_method_1_code 1 = .ok (.aload_n 1, 1) := by decide +kernel
theorem dTW3_2 : decode prog_106_method_1_code 2 = .ok (.aload_n 2, 1) := by decide +kernel
theorem dTW3_3 : decode prog_106_method_1_code 3 = .ok (.aload_n 3, 1) := by decide +kernel
theorem dTW3_4 : decode prog_106_method_1_code 4 = .ok (.aconst_null, 1) := by decide +kernel
theorem dTW3_5 : decode prog_106_method_1_code 5 = .ok (.aconst_null, 1) := by decide +kernel
theorem dTW3_6 : decode prog_106_method_1_code 6 = .ok (.invokespecial 1, 3) := by decide +kernel
theorem dTW3_9 : decode prog_106_method_1_code 9 = .ok (.return_, 1) := by decide +kernel
theorem pn_TW3 : plainName oNT = true := by first | (simp [plainName, overriddenIn]; done) | decide +kernel
theorem pdTW3_0 : parseMethodDescriptor "(Lcom/example/thames/thames/model/NodeKind;Ljava/lang/String;Ljava/lang/String;Lcom/example/thames/thames/model/SchemaType;Lcom/example/thames/thames/engine/NodeTest;)V" = some ⟨[(.object oNK), (.object "java/lang/String"), (.object "java/lang/String"), (.object "com/example/thames/thames/model/SchemaType"), (.object oNT)], none⟩ := by decide +kernel
theorem ef_TW3 (m : MethodId) (o0 : Addr) (w1 : Addr) (v2 : Value) (v3 : Value) (r_v2 : v2.isRef = true) (r_v3 : v3.isRef = true) : entryFrame m #[(.ref o0), (.ref w1), v2, v3] 4 = mkF m 0 #[.val (.ref o0), .val (.ref w1), .val v2, .val v3] [] := by rcases ref_cases r_v2 with rfl | ⟨_, rfl⟩ <;> rcases ref_cases r_v3 with rfl | ⟨_, rfl⟩ <;> first | (simp [entryFrame, mkF, argsToLocals, Value.category]; done) | rfl
def QTW3 (Z : State) (o0 : Addr) (w1 : Addr) (v2 : Value) (v3 : Value) (wE : Addr) (hB : Heap) (h0 : Heap) (n0 : Nat) (v : Option Value) (h : Heap) (L : List Loc) : Prop := v = none ∧ Fr n0 L ∧ Keep h0 h [o0] ∧ Fld Z h o0 oNT "kind" "Lcom/example/thames/thames/model/NodeKind;" (.ref w1) ∧ Fld Z h o0 oNT "namespaceUri" "Ljava/lang/String;" v2 ∧ Fld Z h o0 oNT "localName" "Ljava/lang/String;" v3 ∧ Fld Z h o0 oNT "type" "Lcom/example/thames/thames/model/SchemaType;" .null ∧ Fld Z h o0 oNT "elementTest" "Lcom/example/thames/thames/engine/NodeTest;" .null ∧ Fld Z h o0 oNT "elementQuery" "Lcom/example/thames/thames/model/ElementQuery;" .null
set_option maxRecDepth 65536 in
set_option maxHeartbeats 40000000 in
theorem rmTW3 (l : Launch) (Z : State) (a0 : Array Value) (hw : ∀ d ∈ tables_1, d.before a0 Z = true) (ws : List Jvm.Cond) (o0 : Addr) (w1 : Addr) (v2 : Value) (v3 : Value) (wE : Addr) (hB : Heap) (h0 : Heap) (n0 : Nat) (Z0 : n0 ≤ h0.size) (r_v2 : v2.isRef = true) (r_v3 : v3.isRef = true) (B0 : Ext hB h0) (gb_o0 : hB.size ≤ o0) (g_o0 : n0 ≤ o0) (S_E : Sta Z hB oNK "ELEMENT" "Lcom/example/thames/thames/model/NodeKind;" (.ref wE)) (E_o0 : Exa Z h0 o0 oNT) (F_kind : Fld Z h0 o0 oNT "kind" "Lcom/example/thames/thames/model/NodeKind;" .null) (F_namespaceUri : Fld Z h0 o0 oNT "namespaceUri" "Ljava/lang/String;" .null) (F_localName : Fld Z h0 o0 oNT "localName" "Ljava/lang/String;" .null) (F_type : Fld Z h0 o0 oNT "type" "Lcom/example/thames/thames/model/SchemaType;" .null) (F_elementTest : Fld Z h0 o0 oNT "elementTest" "Lcom/example/thames/thames/engine/NodeTest;" .null) (F_elementQuery : Fld Z h0 o0 oNT "elementQuery" "Lcom/example/thames/thames/model/ElementQuery;" .null) (hne : ¬ w1 = wE) :
    MetFree l (⟨oNT, "<init>", "(Lcom/example/thames/thames/model/NodeKind;Ljava/lang/String;Ljava/lang/String;)V"⟩ : MethodName) (head1 (Jvm.Cond.code (⟨oNT, "<init>", "(Lcom/example/thames/thames/model/NodeKind;Ljava/lang/String;Ljava/lang/String;)V"⟩ : MethodName) prog_106_method_1_code 4 none :: ws) (oR 2 0 0 30)) (fun a U => a = #[(.ref o0), (.ref w1), v2, v3] ∧ Z.Warmed39 U.vm ∧ U.heap = h0) (fun _ _ _ _ _ => True) (fun _ U o U' => ∃ v L, o = .returned v ∧ QTW3 Z o0 w1 v2 v3 wE hB h0 n0 v U'.heap L ∧ FrameEnd U o U' L (oR 2 0 0 30).cells (oR 2 0 0 30).slots) := by
  refine MetFree.of_bodySF (plainFor_of_name pn_TW3) hisR ?_
  intro p e s m args below meth c s₁ Bd hml0 hP hK
  obtain ⟨rfl, hZ, hh⟩ := hP
  have hx := Bd.exec
  have hby := Bd.bytes
  have hml : c.maxLocals = 4 := hml0
  have hown : s.vm.findClass oNT = some m.cls := findClass_of_methodNamed Bd.named
  have hnm := (name_of_methodNamed Bd.named Bd.method).1
  have X0 : Stand p l e (oR 2 0 0 30) s m #[(.ref o0), (.ref w1), v2, v3] below meth c s₁ [] 0 0 := Stand.of_body Bd
  have e0 : s₁.heap = h0 := by rw [← hh, Bd.state]; rfl
  have N0 := Fr.nil n0
  show Goes p e below (fun o U' => ∃ v L, o = .returned v ∧ QTW3 Z o0 w1 v2 v3 wE hB h0 n0 v U'.heap L ∧ FrameEnd s o U' L (oR 2 0 0 30).cells (oR 2 0 0 30).slots) _
  refine Goes.go (fun t k => castTop (ef_TW3 m o0 w1 v2 v3 r_v2 r_v3) k) ?_
  show Goes p e below _ (s₁.setTop (mkF m 0 #[.val (.ref o0), .val (.ref w1), .val v2, .val v3] []))
  refine Goes.go (fun t => XS.aloadN X0.here hx rfl (hb hby dTW3_0) rfl rfl ) ?_
  refine Goes.go (fun t => XS.aloadN X0.here hx rfl (hb hby dTW3_1) rfl rfl ) ?_
  refine Goes.go (fun t => XS.aloadN X0.here hx rfl (hb hby dTW3_2) rfl (by assumption) ) ?_
  refine Goes.go (fun t => XS.aloadN X0.here hx rfl (hb hby dTW3_3) rfl (by assumption) ) ?_
  show Goes p e below _ (s₁.setTop (mkF m 4 #[.val (.ref o0), .val (.ref w1), .val v2, .val v3] [v3, v2, (.ref w1), (.ref o0)]))
  refine Goes.go (fun t => XS.aconstNull X0.here hx rfl (hb hby dTW3_4)) ?_
  refine Goes.go (fun t => XS.aconstNull X0.here hx rfl (hb hby dTW3_5)) ?_
  show Goes p e below _ (s₁.setTop (mkF m 6 #[.val (.ref o0), .val (.ref w1), .val v2, .val v3] [.null, .null, v3, v2, (.ref w1), (.ref o0)]))
  obtain ⟨_, _, ⟨T1, L1, k1, n1⟩, -, X1, ⟨Lc1, hQ1, l1, y1, z1⟩, st1⟩ := X0.specialBack hx (y := (⟨oNT, "<init>", "(Lcom/example/thames/thames/model/NodeKind;Ljava/lang/String;Ljava/lang/String;Lcom/example/thames/thames/model/SchemaType;Lcom/example/thames/thames/engine/NodeTest;)V"⟩ : MethodName)) rfl hown (mvT hZ (own_h hw 54 rfl)) (mvT hZ (own_h hw 55 rfl)) (mvT hZ (own_h hw 56 rfl)) (by decide) (backOf (W := 0) (rmFW l Z a0 hw [] o0 w1 v2 v3 wE hB h0 n0 Z0 r_v2 r_v3 B0 gb_o0 g_o0 S_E E_o0 F_kind F_namespaceUri F_localName F_type F_elementTest F_elementQuery hne) hZ (own_h hw 56 rfl) (own_h hw 50 rfl) (by decide) (by decide)) (g := (mkF m 6 #[.val (.ref o0), .val (.ref w1), .val v2, .val v3] [.null, .null, v3, v2, (.ref w1), (.ref o0)])) rfl (by rw [hml]; rfl) (Steps.refl _) (a := o0) (argsL := [(.ref w1), v2, v3, .null, .null]) (rest := []) (lenOf pdTW3_0 rfl) rfl (by show 2 * 0 + _ ≤ _; exact Nat.le_of_eq rfl) (hb hby dTW3_6) (fun _ _ => ⟨rfl, e0, (by decide : 0 + 0 ≤ _), (by decide : 0 + 0 ≤ _)⟩)
  dsimp only [Pt.U, Pt.locs, Pt.cells, Pt.slots] at X1 l1 y1 z1 st1 hQ1
  subst l1 y1 z1
  obtain ⟨rfl, N1q, hr1⟩ := hQ1
  have N1 := Fr.app N0 N1q
  refine Goes.via st1 ?_
  show Goes p e below _ (T1.setTop (mkF m 9 #[.val (.ref o0), .val (.ref w1), .val v2, .val v3] []))
  exact Goes.out X1 (fun _ => rfl) Bd.notSynchronized (fun fs hr => X1.returnOut hx Bd.returns (hb hby dTW3_9) hr) ⟨rfl, N1, hr1⟩ (by decide) (by decide)

theorem own_and7 (p : Int32) : 0 ≤ (p &&& (7 : Int32)).toInt ∧ (p &&& (7 : Int32)).toInt < 8 := by
  have h1 : (p &&& (7 : Int32)).toInt = p.toInt % 2 ^ 3 := Jvm.Kit.i32_mask p 7 (k := 3) (by decide) (by decide)
  omega
theorem own_and3 (p : Int32) : 0 ≤ (p &&& (3 : Int32)).toInt ∧ (p &&& (3 : Int32)).toInt < 4 := by
  have h1 : (p &&& (3 : Int32)).toInt = p.toInt % 2 ^ 2 := Jvm.Kit.i32_mask p 3 (k := 2) (by decide) (by decide)
  omega
theorem own_z3 {p : Int32} (n1 : ¬ (p &&& (3 : Int32)) = 1) (n2 : ¬ (p &&& (3 : Int32)) = 2) (n3 : ¬ (p &&& (3 : Int32)) = 3) : (p &&& (3 : Int32)) = 0 := by
  have h := own_and3 p
  generalize p &&& (3 : Int32) = x at *
  simp only [← Int32.toInt_inj, Int32.reduceToInt] at *
  omega
theorem own_z2 {p : Int32} (n1 : ¬ (p &&& (3 : Int32)) = 1) (n2 : (p &&& (3 : Int32)) < 2) : (p &&& (3 : Int32)) = 0 := by
  have h := own_and3 p
  generalize p &&& (3 : Int32) = x at *
  simp only [← Int32.toInt_inj, Int32.lt_iff_toInt_lt, Int32.reduceToInt] at *
  omega
theorem own_kind.isref {p : Int32} {wE : Addr} {kv : Value} (h : own_kind p wE kv) : kv.isRef = true := by
  rcases h with ⟨-, rfl⟩ | ⟨-, rfl⟩ | ⟨-, -, w, rfl, -⟩ <;> rfl
theorem own_fitch {c : Int32} (h : own_ch c) : fits .char (.int c) = true := by
  have q := fits_nar_char c
  rwa [own_narch h] at q
/-- the namespace is null just where the selector says so -/
def own_sel (v : Value) (n : Int32) : Prop := (v = .null ∧ n = 0) ∨ ∃ x, v = .ref x ∧ ¬ n = 0

abbrev own_L (p0 p1 p2 p3 p4 p5 : Int32) (a b c d e f g h : Slot) : Array Slot := #[.val (.int p0), .val (.int p1), .val (.int p2), .val (.int p3), .val (.int p4), .val (.int p5), a, b, c, d, e, f, g, h]
theorem pn_0 : plainName "com/example/thames/thames/engine/NodeTestListedByTreePinLaw" = true := by first | (simp [plainName, overriddenIn]; done) | decide +kernel
theorem pd0_0 : parseMethodDescriptor "(I)C" = some ⟨[.int], some .char⟩ := by decide +kernel
theorem pd0_1 : parseMethodDescriptor "([C)V" = some ⟨[(.array .char)], none⟩ := by decide +kernel
theorem pd0_2 : parseMethodDescriptor "(Lcom/example/thames/thames/model/NodeKind;Ljava/lang/String;Ljava/lang/String;)V" = some ⟨[(.object oNK), (.object "java/lang/String"), (.object "java/lang/String")], none⟩ := by decide +kernel
theorem pd0_3 : parseMethodDescriptor "()Z" = some ⟨[], some .boolean⟩ := by decide +kernel
theorem pd0_4 : parseMethodDescriptor "(I)Lcom/example/thames/thames/model/NodeKind;" = some ⟨[.int], some (.object oNK)⟩ := by decide +kernel
theorem ef_0 (m : MethodId) (p0 : Int32) (p1 : Int32) (p2 : Int32) (p3 : Int32) (p4 : Int32) (p5 : Int32) : entryFrame m #[(.int p0), (.int p1), (.int p2), (.int p3), (.int p4), (.int p5)] maxLocals = mkF m 0 #[.val (.int p0), .val (.int p1), .val (.int p2), .val (.int p3), .val (.int p4), .val (.int p5), .unset, .unset, .unset, .unset, .unset, .unset, .unset, .unset] [] := by first | (simp [entryFrame, mkF, argsToLocals, Value.category, maxLocals]; done) | rfl
def Q0 (Z : State) (p0 : Int32) (p1 : Int32) (p2 : Int32) (p3 : Int32) (p4 : Int32) (p5 : Int32) (z : Int32) (fm : Value) (wS : Addr) (wN : Addr) (cS : Cell) (cN : Cell) (w_DOCUMENT : Addr) (w_ELEMENT : Addr) (w_ATTRIBUTE : Addr) (w_TEXT : Addr) (w_COMMENT : Addr) (w_PROCESSING_INSTRUCTION : Addr) (w_NAMESPACE : Addr) (f : Addr → Option Value) (h0 : Heap) (n0 : Nat) (v : Option Value) (h : Heap) (L : List Loc) : Prop := v = some (.int 1) ∧ Fr n0 L
set_option maxRecDepth 65536 in
set_option maxHeartbeats 40000000 in
theorem rm0 (l : Launch) (Z : State) (a0 : Array Value) (hw : ∀ d ∈ tables_1, d.before a0 Z = true) (ws : List Jvm.Cond) (p0 : Int32) (p1 : Int32) (p2 : Int32) (p3 : Int32) (p4 : Int32) (p5 : Int32) (z : Int32) (fm : Value) (wS : Addr) (wN : Addr) (cS : Cell) (cN : Cell) (w_DOCUMENT : Addr) (w_ELEMENT : Addr) (w_ATTRIBUTE : Addr) (w_TEXT : Addr) (w_COMMENT : Addr) (w_PROCESSING_INSTRUCTION : Addr) (w_NAMESPACE : Addr) (f : Addr → Option Value) (h0 : Heap) (n0 : Nat) (Z0 : n0 ≤ h0.size) (V : own_env Z h0 z fm wS wN cS cN) (S_DOCUMENT : Sta Z h0 oNK "DOCUMENT" "Lcom/example/thames/thames/model/NodeKind;" (.ref w_DOCUMENT)) (S_ELEMENT : Sta Z h0 oNK "ELEMENT" "Lcom/example/thames/thames/model/NodeKind;" (.ref w_ELEMENT)) (S_ATTRIBUTE : Sta Z h0 oNK "ATTRIBUTE" "Lcom/example/thames/thames/model/NodeKind;" (.ref w_ATTRIBUTE)) (S_TEXT : Sta Z h0 oNK "TEXT" "Lcom/example/thames/thames/model/NodeKind;" (.ref w_TEXT)) (S_COMMENT : Sta Z h0 oNK "COMMENT" "Lcom/example/thames/thames/model/NodeKind;" (.ref w_COMMENT)) (S_PROCESSING_INSTRUCTION : Sta Z h0 oNK "PROCESSING_INSTRUCTION" "Lcom/example/thames/thames/model/NodeKind;" (.ref w_PROCESSING_INSTRUCTION)) (S_NAMESPACE : Sta Z h0 oNK "NAMESPACE" "Lcom/example/thames/thames/model/NodeKind;" (.ref w_NAMESPACE)) (O_DOCUMENT : f w_DOCUMENT = some (.int (0 : Int32))) (O_ELEMENT : f w_ELEMENT = some (.int (1 : Int32))) (O_ATTRIBUTE : f w_ATTRIBUTE = some (.int (2 : Int32))) (O_TEXT : f w_TEXT = some (.int (3 : Int32))) (O_COMMENT : f w_COMMENT = some (.int (4 : Int32))) (O_PROCESSING_INSTRUCTION : f w_PROCESSING_INSTRUCTION = some (.int (5 : Int32))) (O_NAMESPACE : f w_NAMESPACE = some (.int (6 : Int32))) :
    MetFree l x (head1 (Jvm.Cond.code x code maxLocals ret :: ws) room_1) (fun a U => a = #[(.int p0), (.int p1), (.int p2), (.int p3), (.int p4), (.int p5)] ∧ Z.Warmed39 U.vm ∧ U.heap = h0 ∧ CHv Z own_EL U.vm h0) (fun _ _ _ _ _ => True) (fun _ U o U' => ∃ v L, o = .returned v ∧ Q0 Z p0 p1 p2 p3 p4 p5 z fm wS wN cS cN w_DOCUMENT w_ELEMENT w_ATTRIBUTE w_TEXT w_COMMENT w_PROCESSING_INSTRUCTION w_NAMESPACE f h0 n0 v U'.heap L ∧ CHr Z own_EL U.vm U.heap U'.vm U'.heap ∧ ReturnedEndW U o U' L room_1.cells room_1.slots) := by
  refine MetFree.of_bodySF (plainFor_of_name pn_0) hisR ?_
  intro p e s m args below meth c s₁ Bd hml0 hP hK
  obtain ⟨rfl, hZ, hh, CH⟩ := hP
  have hx := Bd.exec
  have hby := Bd.bytes
  have hml : c.maxLocals = 14 := hml0
  have hown : (s.setVm s.vm).vm.findClass "com/example/thames/thames/engine/NodeTestListedByTreePinLaw" = some m.cls := findClass_of_methodNamed Bd.named
  have hnm := (name_of_methodNamed Bd.named Bd.method).1
  have X0 : Stand p l e room_1 (s.setVm s.vm) m #[(.int p0), (.int p1), (.int p2), (.int p3), (.int p4), (.int p5)] below meth c s₁ [] 0 0 := Stand.of_body Bd
  have e0 : s₁.heap = h0 := by rw [← hh, Bd.state]; rfl
  have N0 := Fr.nil n0
  have hZ : Z.Warmed39 (s.setVm s.vm).vm := hZ
  have hS : s.Since s.vm h0.size := (State.WarmedH.refl s).since _
  have hk : h0.size ≤ h0.size := Nat.le_refl _
  have CR0 : CHr Z own_EL s.vm h0 s.vm h0 := CHr.refl CH
  show Goes p e below (fun o U' => ∃ v L, o = .returned v ∧ Q0 Z p0 p1 p2 p3 p4 p5 z fm wS wN cS cN w_DOCUMENT w_ELEMENT w_ATTRIBUTE w_TEXT w_COMMENT w_PROCESSING_INSTRUCTION w_NAMESPACE f h0 n0 v U'.heap L ∧ CHr Z own_EL s.vm s.heap U'.vm U'.heap ∧ ReturnedEndW s o U' L room_1.cells room_1.slots) _
  refine Goes.go (fun t k => castTop (ef_0 m p0 p1 p2 p3 p4 p5) k) ?_
  obtain ⟨S_z, hz, -⟩ := id V
  have j117 : ∀ (vm0 : Vm) (T : State) (h : Heap) (LL : List Loc) (k : Nat) (kv nv : Value) (X : Stand p l e room_1 (s.setVm vm0) m #[(.int p0), (.int p1), (.int p2), (.int p3), (.int p4), (.int p5)] below meth c T LL 8 40) (N : Fr n0 LL) (eT : T.heap = h) (hS : s.Since vm0 k) (hk : k ≤ h.size) (hZ : Z.Warmed39 (s.setVm vm0).vm) (hown : (s.setVm vm0).vm.findClass "com/example/thames/thames/engine/NodeTestListedByTreePinLaw" = some m.cls) (CHx : CHv Z own_EL vm0 h) (CRx : CHr Z own_EL s.vm h0 vm0 h) (Zx : n0 ≤ h.size) (V : own_env Z h z fm wS wN cS cN) (SE : Sta Z h oNK "ELEMENT" "Lcom/example/thames/thames/model/NodeKind;" (.ref w_ELEMENT)) (hkv : own_kind (p0 &&& (7 : Int32)) w_ELEMENT kv) (NSv : own_nsv Z h nv) (hsel : own_sel nv (p1 &&& (3 : Int32))), Goes p e below (fun o U' => ∃ v L, o = .returned v ∧ Q0 Z p0 p1 p2 p3 p4 p5 z fm wS wN cS cN w_DOCUMENT w_ELEMENT w_ATTRIBUTE w_TEXT w_COMMENT w_PROCESSING_INSTRUCTION w_NAMESPACE f h0 n0 v U'.heap L ∧ CHr Z own_EL s.vm s.heap U'.vm U'.heap ∧ ReturnedEndW s o U' L room_1.cells room_1.slots) (T.setTop (mkF m 117 (own_L p0 p1 p2 p3 p4 p5 (.val (.int (p0 &&& (7 : Int32)))) (.val kv) (.val nv) (.val (.int (p1 &&& (3 : Int32)))) (.val .null) .unset .unset .unset) [])) := by
    intro vm0 T h LL k kv nv X N eT hS hk hZ hown CHx CRx Zx V SE hkv NSv hsel
    have r_kv : kv.isRef = true := hkv.isref
    have r_nv : nv.isRef = true := NSv.isref
    obtain ⟨S_z, hz, -⟩ := id V
    show Goes p e below _ (T.setTop (mkF m 117 (own_L p0 p1 p2 p3 p4 p5 (.val (.int (p0 &&& (7 : Int32)))) (.val kv) (.val nv) (.val (.int (p1 &&& (3 : Int32)))) (.val .null) .unset .unset .unset) []))
    refine Goes.go (fun t => XS.iloadN X.here hx rfl (hb hby at_117) rfl ) ?_
    refine Goes.go (fun t => XS.iconst X.here hx rfl (hb hby at_118)) ?_
    refine Goes.go (fun t => XS.iand X.here hx rfl (hb hby at_119) rfl) ?_
    refine Goes.go (fun t => XS.istore X.here hx rfl (hb hby at_120) rfl (l' := (own_L p0 p1 p2 p3 p4 p5 (.val (.int (p0 &&& (7 : Int32)))) (.val kv) (.val nv) (.val (.int (p1 &&& (3 : Int32)))) (.val .null) (.val (.int (p2 &&& (3 : Int32)))) .unset .unset)) rfl) ?_
    show Goes p e below _ (T.setTop (mkF m 122 (own_L p0 p1 p2 p3 p4 p5 (.val (.int (p0 &&& (7 : Int32)))) (.val kv) (.val nv) (.val (.int (p1 &&& (3 : Int32)))) (.val .null) (.val (.int (p2 &&& (3 : Int32)))) .unset .unset) []))
    refine Goes.go (fun t => XS.iload X.here hx rfl (hb hby at_122) rfl ) ?_
    refine Goes.go (fun t => XS.iconst X.here hx rfl (hb hby at_124)) ?_
    show Goes p e below _ (T.setTop (mkF m 125 (own_L p0 p1 p2 p3 p4 p5 (.val (.int (p0 &&& (7 : Int32)))) (.val kv) (.val nv) (.val (.int (p1 &&& (3 : Int32)))) (.val .null) (.val (.int (p2 &&& (3 : Int32)))) .unset .unset) [(.int (1 : Int32)), (.int (p2 &&& (3 : Int32)))]))
    by_cases hc125 : (p2 &&& (3 : Int32)) = (1 : Int32)
    · refine Goes.go (fun t => XS.icmpNo X.here hx rfl (hb hby at_125) rfl (Jvm.Free.XT.ii_ne_f hc125)) ?_
      show Goes p e below _ (T.setTop (mkF m 128 (own_L p0 p1 p2 p3 p4 p5 (.val (.int (p0 &&& (7 : Int32)))) (.val kv) (.val nv) (.val (.int (p1 &&& (3 : Int32)))) (.val .null) (.val (.int (p2 &&& (3 : Int32)))) .unset .unset) []))
      refine Goes.go (fun t => XS.iconst X.here hx rfl (hb hby at_128)) ?_
      show Goes p e below _ (T.setTop (mkF m 129 (own_L p0 p1 p2 p3 p4 p5 (.val (.int (p0 &&& (7 : Int32)))) (.val kv) (.val nv) (.val (.int (p1 &&& (3 : Int32)))) (.val .null) (.val (.int (p2 &&& (3 : Int32)))) .unset .unset) [(.int (1 : Int32))]))
      obtain ⟨T1, h1, k1, X1, e1, E1, A1, st1⟩ := newP X hx hZ (own_h hw 7 rfl) eT (g := (mkF m 129 (own_L p0 p1 p2 p3 p4 p5 (.val (.int (p0 &&& (7 : Int32)))) (.val kv) (.val nv) (.val (.int (p1 &&& (3 : Int32)))) (.val .null) (.val (.int (p2 &&& (3 : Int32)))) .unset .unset) [(.int (1 : Int32))])) rfl (hb hby at_129) rfl (by decide) (cap := 1) (by decide) (by decide) (by decide) (by decide)
      obtain ⟨c1, gq_c1⟩ : ∃ z, z = h.size := ⟨_, rfl⟩
      rw [← gq_c1] at A1 st1
      have g_c1 : n0 ≤ c1 := Nat.le_trans Zx (Nat.le_of_eq gq_c1.symm)
      have gb_c1 : h.size ≤ c1 := Nat.le_trans (⟨Nat.le_refl _, fun _ _ q => q⟩ : Ext h h).1 (Nat.le_of_eq gq_c1.symm)
      have CQ1 := CHr.ext E1 CHx
      have CH1 := CQ1.1
      have CR1 := CRx.trans CQ1
      have hk := Nat.le_trans hk E1.1
      have Z1 : n0 ≤ h1.size := Nat.le_trans Zx E1.1
      have B1 : Ext h h1 := own_ext_trans (⟨Nat.le_refl _, fun _ _ q => q⟩ : Ext h h) E1
      have V_c1 : Arv Z h1 c1 k1 .char (1 : Int32) [(.int (0 : Int32))] (.int (0 : Int32)) := (Arv.new A1 (by decide)).pad (pad_rep [] (.int (0 : Int32)) 1)
      refine Goes.go st1 ?_
      show Goes p e below _ (T1.setTop (mkF m 131 (own_L p0 p1 p2 p3 p4 p5 (.val (.int (p0 &&& (7 : Int32)))) (.val kv) (.val nv) (.val (.int (p1 &&& (3 : Int32)))) (.val .null) (.val (.int (p2 &&& (3 : Int32)))) .unset .unset) [(.ref c1)]))
      refine Goes.go (fun t => XS.astore X1.here hx rfl (hb hby at_131) rfl rfl (l' := (own_L p0 p1 p2 p3 p4 p5 (.val (.int (p0 &&& (7 : Int32)))) (.val kv) (.val nv) (.val (.int (p1 &&& (3 : Int32)))) (.val .null) (.val (.int (p2 &&& (3 : Int32)))) (.val (.ref c1)) .unset)) rfl) ?_
      refine Goes.go (fun t => XS.aload X1.here hx rfl (hb hby at_133) rfl rfl ) ?_
      refine Goes.go (fun t => XS.iconst X1.here hx rfl (hb hby at_135)) ?_
      refine Goes.go (fun t => XS.iload X1.here hx rfl (hb hby at_136) rfl ) ?_
      show Goes p e below _ (T1.setTop (mkF m 138 (own_L p0 p1 p2 p3 p4 p5 (.val (.int (p0 &&& (7 : Int32)))) (.val kv) (.val nv) (.val (.int (p1 &&& (3 : Int32)))) (.val .null) (.val (.int (p2 &&& (3 : Int32)))) (.val (.ref c1)) .unset) [(.int p5), (.int (0 : Int32)), (.ref c1)]))
      refine Goes.go (fun t => X1.ldcI hx hown (mvT hZ (own_h hw 41 rfl)) rfl (hb hby at_138)) ?_
      show Goes p e below _ (T1.setTop (mkF m 140 (own_L p0 p1 p2 p3 p4 p5 (.val (.int (p0 &&& (7 : Int32)))) (.val kv) (.val nv) (.val (.int (p1 &&& (3 : Int32)))) (.val .null) (.val (.int (p2 &&& (3 : Int32)))) (.val (.ref c1)) .unset) [(.int (65535 : Int32)), (.int p5), (.int (0 : Int32)), (.ref c1)]))
      refine Goes.go (fun t => XS.iand X1.here hx rfl (hb hby at_140) rfl) ?_
      show Goes p e below _ (T1.setTop (mkF m 141 (own_L p0 p1 p2 p3 p4 p5 (.val (.int (p0 &&& (7 : Int32)))) (.val kv) (.val nv) (.val (.int (p1 &&& (3 : Int32)))) (.val .null) (.val (.int (p2 &&& (3 : Int32)))) (.val (.ref c1)) .unset) [(.int (p5 &&& (65535 : Int32))), (.int (0 : Int32)), (.ref c1)]))
      obtain ⟨_, _, ⟨T2, L2, k2, n2⟩, -, X2, ⟨Lc2, hQ2, l2, y2, z2⟩, st2⟩ := Jvm.LawKit.callS X1 hx (y := (⟨"com/example/thames/thames/engine/NodeTestListedByTreePinLaw", "startChar", "(I)C"⟩ : MethodName)) hown (mvT hZ (own_h hw 42 rfl)) (mvT hZ (own_h hw 43 rfl)) (mvT hZ (own_h hw 2 rfl)) (mvT hZ (own_h hw 44 rfl)) (by decide) (backOf (W := 2) (rmSR l Z a0 hw [] (p5 &&& (65535 : Int32)) h1 n0 Z1) hZ (own_h hw 44 rfl) (own_h hw 2 rfl) (by decide) (by decide)) (g := (mkF m 141 (own_L p0 p1 p2 p3 p4 p5 (.val (.int (p0 &&& (7 : Int32)))) (.val kv) (.val nv) (.val (.int (p1 &&& (3 : Int32)))) (.val .null) (.val (.int (p2 &&& (3 : Int32)))) (.val (.ref c1)) .unset) [(.int (p5 &&& (65535 : Int32))), (.int (0 : Int32)), (.ref c1)])) rfl (by rw [hml]; rfl) (argsL := [(.int (p5 &&& (65535 : Int32)))]) (rest := [(.int (0 : Int32)), (.ref c1)]) (lenOf pd0_0 rfl) rfl (by show 2 * 0 + _ ≤ _; exact Nat.le_of_eq rfl) (hb hby at_141) (fun _ _ => ⟨rfl, e1, (by decide : 9 + 0 ≤ _), (by decide : 41 + 0 ≤ _)⟩)
      dsimp only [Pt.U, Pt.locs, Pt.cells, Pt.slots] at X2 l2 y2 z2 st2 hQ2
      subst l2 y2 z2
      obtain ⟨ch2, rfl, N2q, e2q, hch2⟩ := hQ2
      have N2 := Fr.app N N2q
      refine Goes.go st2 ?_
      show Goes p e below _ (T2.setTop (mkF m 144 (own_L p0 p1 p2 p3 p4 p5 (.val (.int (p0 &&& (7 : Int32)))) (.val kv) (.val nv) (.val (.int (p1 &&& (3 : Int32)))) (.val .null) (.val (.int (p2 &&& (3 : Int32)))) (.val (.ref c1)) .unset) [(.int ch2), (.int (0 : Int32)), (.ref c1)]))
      have sf3 : Safe Z own_EL vm0 h1 c1 := Safe.arv hZ.alike V_c1 (by decide)
      obtain ⟨cl3, Ar3, q3, Sz3, Nn3, Hh3, Gg3⟩ := id V_c1
      obtain ⟨T3, h3, X3, e3, W3, st3⟩ := stC X2 hx hZ e2q Ar3 (j := (0 : Int32)) (inb_of Sz3 ⟨by decide, by decide⟩) (g := (mkF m 144 (own_L p0 p1 p2 p3 p4 p5 (.val (.int (p0 &&& (7 : Int32)))) (.val kv) (.val nv) (.val (.int (p1 &&& (3 : Int32)))) (.val .null) (.val (.int (p2 &&& (3 : Int32)))) (.val (.ref c1)) .unset) [(.int ch2), (.int (0 : Int32)), (.ref c1)])) rfl rfl (hb hby at_144)
      rw [own_narch hch2.ch] at W3
      have V3 : Arv Z h3 c1 k1 .char (1 : Int32) [(.int ch2)] (.int (0 : Int32)) := Arv.set Ar3 q3 Sz3 Nn3 Hh3 Gg3 (own_fitch hch2.ch) W3 0 rfl (Nat.le_of_ble_eq_true rfl)
      have CQ3 := CHr.wr W3 sf3 CH1
      have CH3 := CQ3.1
      have CR3 := CR1.trans CQ3
      have hk := Nat.le_trans hk (Nat.le_of_eq W3.size.symm)
      have Z3 : n0 ≤ h3.size := Nat.le_trans Z1 (Nat.le_of_eq W3.size.symm)
      have B3 : Ext h h3 := own_ext_wr B1 W3 gb_c1
      have N3 := Fr.snoc X3 N2 g_c1
      refine Goes.go st3 ?_
      obtain ⟨LL4, XL4, NL4⟩ : ∃ LL : List Loc, Stand p l e room_1 (s.setVm vm0) m #[(.int p0), (.int p1), (.int p2), (.int p3), (.int p4), (.int p5)] below meth c T3 LL 9 41 ∧ Fr n0 LL := ⟨_, X3, N3⟩
      show Goes p e below _ (T3.setTop (mkF m 145 (own_L p0 p1 p2 p3 p4 p5 (.val (.int (p0 &&& (7 : Int32)))) (.val kv) (.val nv) (.val (.int (p1 &&& (3 : Int32)))) (.val .null) (.val (.int (p2 &&& (3 : Int32)))) (.val (.ref c1)) .unset) []))
      obtain ⟨T6, h6, X6, e6, E6, A6, D6, -, st6⟩ := newO XL4 hx hZ hown (own_h hw 12 rfl) (own_h hw 13 rfl) (own_h hw 14 rfl) e3 (g := (mkF m 145 (own_L p0 p1 p2 p3 p4 p5 (.val (.int (p0 &&& (7 : Int32)))) (.val kv) (.val nv) (.val (.int (p1 &&& (3 : Int32)))) (.val .null) (.val (.int (p2 &&& (3 : Int32)))) (.val (.ref c1)) .unset) [])) rfl (hb hby at_145) (by decide) (by decide)
      obtain ⟨x5, gq_x5⟩ : ∃ z, z = h3.size := ⟨_, rfl⟩
      rw [← gq_x5] at A6 D6 st6
      have g_x5 : n0 ≤ x5 := Nat.le_trans Z3 (Nat.le_of_eq gq_x5.symm)
      have gb_x5 : h.size ≤ x5 := Nat.le_trans B3.1 (Nat.le_of_eq gq_x5.symm)
      have sn_x5 : Safe Z own_EL vm0 h3 x5 := Safe.new (Nat.le_of_eq gq_x5.symm)
      have CQ6 := CHr.ext E6 CH3
      have CH6 := CQ6.1
      have CR6 := CR3.trans CQ6
      have hk := Nat.le_trans hk E6.1
      have SF_x5_6 := Safe.ext E6 CH3 sn_x5
      have Z6 : n0 ≤ h6.size := Nat.le_trans Z3 E6.1
      have B6 : Ext h h6 := own_ext_trans B3 E6
      have F_coder_x5_6 : Fld Z h6 x5 "java/lang/String" "coder" "B" (.int (0 : Int32)) := D6 (Or.inr (own_h hw 38 rfl)) (ty := .byte) (by decide)
      have F_value_x5_6 : Fld Z h6 x5 "java/lang/String" "value" "[B" .null := D6 (Or.inr (own_h hw 40 rfl)) (ty := (.array .byte)) (by decide)
      refine Goes.go st6 ?_
      have V7 := V3.ext E6
      show Goes p e below _ (T6.setTop (mkF m 148 (own_L p0 p1 p2 p3 p4 p5 (.val (.int (p0 &&& (7 : Int32)))) (.val kv) (.val nv) (.val (.int (p1 &&& (3 : Int32)))) (.val .null) (.val (.int (p2 &&& (3 : Int32)))) (.val (.ref c1)) .unset) [(.ref x5)]))
      refine Goes.go (fun t => XS.dup X6.here hx rfl (hb hby at_148) rfl rfl) ?_
      refine Goes.go (fun t => XS.aload X6.here hx rfl (hb hby at_149) rfl rfl ) ?_
      show Goes p e below _ (T6.setTop (mkF m 151 (own_L p0 p1 p2 p3 p4 p5 (.val (.int (p0 &&& (7 : Int32)))) (.val kv) (.val nv) (.val (.int (p1 &&& (3 : Int32)))) (.val .null) (.val (.int (p2 &&& (3 : Int32)))) (.val (.ref c1)) .unset) [(.ref c1), (.ref x5), (.ref x5)]))
      have hpx5 : ∀ c ∈ ([ch2] : List Int32), ¬ c < 0 ∧ ¬ (255 : Int32) < c := by
        intro c hc; simp only [List.mem_cons, List.not_mem_nil, or_false] at hc
        subst hc; exact hch2.ch.bd
      obtain ⟨_, _, ⟨T8, L8, k8, n8⟩, -, X8, ⟨Lc8, hQ8, l8, y8, z8⟩, st8⟩ := X6.specialBack hx (y := (⟨"java/lang/String", "<init>", "([C)V"⟩ : MethodName)) rfl hown (mvT hZ (own_h hw 15 rfl)) (mvT hZ (own_h hw 16 rfl)) (mvT hZ (own_h hw 17 rfl)) (by decide) (StrChars.Road.backV (W := 1) hZ (fun d hd => hw d (own_wNew d hd)) (kI := 4) (own_h hw 13 rfl) (cs := ([ch2] : List Int32)) (bs := ([ch2] : List Int32).map (fun c => c.toInt8.toInt32)) (n := 1) g_x5 Z6 A6 F_value_x5_6 F_coder_x5_6 V7 (S_z.ext B6) hz rfl rfl (by decide) (by decide) hpx5 rfl (by decide) (by decide)) (g := (mkF m 151 (own_L p0 p1 p2 p3 p4 p5 (.val (.int (p0 &&& (7 : Int32)))) (.val kv) (.val nv) (.val (.int (p1 &&& (3 : Int32)))) (.val .null) (.val (.int (p2 &&& (3 : Int32)))) (.val (.ref c1)) .unset) [(.ref c1), (.ref x5), (.ref x5)])) rfl (by rw [hml]; rfl) (Steps.refl _) (a := x5) (argsL := [(.ref c1)]) (rest := [(.ref x5)]) (lenOf pd0_1 rfl) rfl (by show 2 * 0 + _ ≤ _; exact Nat.le_of_eq rfl) (hb hby at_151) (fun _ _ => ⟨rfl, e6, (by decide : 10 + 1 ≤ _), (by decide : 45 + 1 ≤ _)⟩)
      dsimp only [Pt.U, Pt.locs, Pt.cells, Pt.slots] at X8 l8 y8 z8 st8 hQ8
      subst l8 y8 z8
      obtain ⟨rfl, N8q, K8, Ea8, Fc8, t8, kb8, -, -, -, Fv8, Av8⟩ := hQ8
      have N8 := Fr.app NL4 N8q
      refine Goes.via st8 ?_
      have CQ8 := CHr.keep K8 (sfS SF_x5_6 sf0) CH6
      have CH8 := CQ8.1
      have CR8 := CR6.trans CQ8
      have hk := Nat.le_trans hk K8.1
      have Z8 : n0 ≤ T8.heap.size := Nat.le_trans Z6 K8.1
      have B8 : Ext h T8.heap := own_ext_keep B6 K8 (allS gb_x5 all0)
      have E_x5_8 : Exa Z T8.heap x5 "java/lang/String" := A6.keep K8
      have Sx8 : own_s Z T8.heap x5 [ch2] := ⟨Ea8, Fc8, ⟨t8, kb8, Fv8, Av8⟩, hpx5, by show 1 ≤ 4000; decide⟩
      obtain ⟨LL9, XL9, NL9⟩ : ∃ LL : List Loc, Stand p l e room_1 (s.setVm vm0) m #[(.int p0), (.int p1), (.int p2), (.int p3), (.int p4), (.int p5)] below meth c T8 LL 11 46 ∧ Fr n0 LL := ⟨_, X8, N8⟩
      show Goes p e below _ (T8.setTop (mkF m 154 (own_L p0 p1 p2 p3 p4 p5 (.val (.int (p0 &&& (7 : Int32)))) (.val kv) (.val nv) (.val (.int (p1 &&& (3 : Int32)))) (.val .null) (.val (.int (p2 &&& (3 : Int32)))) (.val (.ref c1)) .unset) [(.ref x5)]))
      refine Goes.go (fun t => XS.astore XL9.here hx rfl (hb hby at_154) rfl rfl (l' := (own_L p0 p1 p2 p3 p4 p5 (.val (.int (p0 &&& (7 : Int32)))) (.val kv) (.val nv) (.val (.int (p1 &&& (3 : Int32)))) (.val (.ref x5)) (.val (.int (p2 &&& (3 : Int32)))) (.val (.ref c1)) .unset)) rfl) ?_
      refine Goes.go (fun t => XS.goto XL9.here hx rfl (pc0 := 156) (pc' := 205) rfl (hb hby at_156) (by decide) (by decide)) ?_
      rcases hkv with ⟨hk1, rfl⟩ | ⟨hk7, rfl⟩ | ⟨hn1, hn7, w, rfl, hne⟩
      · show Goes p e below _ (T8.setTop (mkF m 205 (own_L p0 p1 p2 p3 p4 p5 (.val (.int (p0 &&& (7 : Int32)))) (.val (.ref w_ELEMENT)) (.val nv) (.val (.int (p1 &&& (3 : Int32)))) (.val (.ref x5)) (.val (.int (p2 &&& (3 : Int32)))) (.val (.ref c1)) .unset) []))
        have NS2 := NSv.ext B8
        have V2 := V.ext B8
        have SE2 := SE.ext B8
        have LN2 : own_lnv Z T8.heap (.ref x5) := Or.inr ⟨_, _, rfl, Sx8, (Or.inl ⟨_, rfl, hch2⟩)⟩
        obtain ⟨T10, h10, X10, e10, E10, A10, D10, -, st10⟩ := newO XL9 hx hZ hown (own_h hw 48 rfl) (own_h hw 49 rfl) (own_h hw 50 rfl) rfl (g := (mkF m 205 (own_L p0 p1 p2 p3 p4 p5 (.val (.int (p0 &&& (7 : Int32)))) (.val (.ref w_ELEMENT)) (.val nv) (.val (.int (p1 &&& (3 : Int32)))) (.val (.ref x5)) (.val (.int (p2 &&& (3 : Int32)))) (.val (.ref c1)) .unset) [])) rfl (hb hby at_205) (by decide) (by decide)
        obtain ⟨tt, gq_tt⟩ : ∃ z, z = T8.heap.size := ⟨_, rfl⟩
        rw [← gq_tt] at A10 D10 st10
        have g_tt : n0 ≤ tt := Nat.le_trans Z8 (Nat.le_of_eq gq_tt.symm)
        have CQ10 := CHr.ext E10 CH8
        have CH10 := CQ10.1
        have CR10 := CR8.trans CQ10
        have hk := Nat.le_trans hk E10.1
        have Z10 : n0 ≤ h10.size := Nat.le_trans Z8 E10.1
        have F_kind_tt_10 : Fld Z h10 tt oNT "kind" "Lcom/example/thames/thames/model/NodeKind;" .null := D10 (Or.inr (own_h hw 59 rfl)) (ty := (.object oNK)) (by decide)
        have F_namespaceUri_tt_10 : Fld Z h10 tt oNT "namespaceUri" "Ljava/lang/String;" .null := D10 (Or.inr (own_h hw 61 rfl)) (ty := (.object "java/lang/String")) (by decide)
        have F_localName_tt_10 : Fld Z h10 tt oNT "localName" "Ljava/lang/String;" .null := D10 (Or.inr (own_h hw 63 rfl)) (ty := (.object "java/lang/String")) (by decide)
        have F_type_tt_10 : Fld Z h10 tt oNT "type" "Lcom/example/thames/thames/model/SchemaType;" .null := D10 (Or.inr (own_h hw 65 rfl)) (ty := (.object "com/example/thames/thames/model/SchemaType")) (by decide)
        have F_elementTest_tt_10 : Fld Z h10 tt oNT "elementTest" "Lcom/example/thames/thames/engine/NodeTest;" .null := D10 (Or.inr (own_h hw 67 rfl)) (ty := (.object oNT)) (by decide)
        have F_elementQuery_tt_10 : Fld Z h10 tt oNT "elementQuery" "Lcom/example/thames/thames/model/ElementQuery;" .null := D10 (Or.inr (own_h hw 75 rfl)) (ty := (.object oEQ)) (by decide)
        refine Goes.go st10 ?_
        have gb_tt : T8.heap.size ≤ tt := Nat.le_of_eq gq_tt.symm
        show Goes p e below _ (T10.setTop (mkF m 208 (own_L p0 p1 p2 p3 p4 p5 (.val (.int (p0 &&& (7 : Int32)))) (.val (.ref w_ELEMENT)) (.val nv) (.val (.int (p1 &&& (3 : Int32)))) (.val (.ref x5)) (.val (.int (p2 &&& (3 : Int32)))) (.val (.ref c1)) .unset) [(.ref tt)]))
        refine Goes.go (fun t => XS.dup X10.here hx rfl (hb hby at_208) rfl rfl) ?_
        refine Goes.go (fun t => XS.aload X10.here hx rfl (hb hby at_209) rfl rfl ) ?_
        refine Goes.go (fun t => XS.aload X10.here hx rfl (hb hby at_211) rfl (by assumption) ) ?_
        refine Goes.go (fun t => XS.aload X10.here hx rfl (hb hby at_213) rfl rfl ) ?_
        show Goes p e below _ (T10.setTop (mkF m 215 (own_L p0 p1 p2 p3 p4 p5 (.val (.int (p0 &&& (7 : Int32)))) (.val (.ref w_ELEMENT)) (.val nv) (.val (.int (p1 &&& (3 : Int32)))) (.val (.ref x5)) (.val (.int (p2 &&& (3 : Int32)))) (.val (.ref c1)) .unset) [(.ref x5), nv, (.ref w_ELEMENT), (.ref tt), (.ref tt)]))
        obtain ⟨_, _, ⟨T11, L11, k11, n11⟩, -, X11, hS11, hg11, ⟨Lc11, hQ11, l11, y11, z11, CQ11⟩, st11⟩ := X10.specialBackS hx (y := (⟨oNT, "<init>", "(Lcom/example/thames/thames/model/NodeKind;Ljava/lang/String;Ljava/lang/String;)V"⟩ : MethodName)) rfl hown (mvT hZ (own_h hw 51 rfl)) (mvT hZ (own_h hw 52 rfl)) (mvT hZ (own_h hw 53 rfl)) (by decide) (backOfSH (s := s) (vm0 := vm0) (W := 1) (rmTE3 l Z a0 hw [] tt w_ELEMENT nv (.ref x5) z fm wS wN cS cN T8.heap h10 n0 Z10 NS2.isref LN2.isref E10 gb_tt g_tt SE2 A10 F_kind_tt_10 F_namespaceUri_tt_10 F_localName_tt_10 F_type_tt_10 F_elementTest_tt_10 F_elementQuery_tt_10 V2 NS2 LN2) hZ (own_h hw 53 rfl) (own_h hw 50 rfl) (by decide) (by decide) (own_ew hw) CH10) (g := (mkF m 215 (own_L p0 p1 p2 p3 p4 p5 (.val (.int (p0 &&& (7 : Int32)))) (.val (.ref w_ELEMENT)) (.val nv) (.val (.int (p1 &&& (3 : Int32)))) (.val (.ref x5)) (.val (.int (p2 &&& (3 : Int32)))) (.val (.ref c1)) .unset) [(.ref x5), nv, (.ref w_ELEMENT), (.ref tt), (.ref tt)])) rfl (by rw [hml]; rfl) (Steps.refl _) (a := tt) (argsL := [(.ref w_ELEMENT), nv, (.ref x5)]) (rest := [(.ref tt)]) (lenOf pd0_2 rfl) rfl (by show 2 * 0 + _ ≤ _; exact Nat.le_of_eq rfl) (hb hby at_215) (fun _ _ => ⟨rfl, e10, (by decide : 12 + 14 ≤ _), (by decide : 52 + 277 ≤ _)⟩)
        dsimp only [Pt.U, Pt.locs, Pt.cells, Pt.slots] at X11 hS11 hg11 l11 y11 z11 st11 hQ11 CQ11
        subst l11 y11 z11
        obtain ⟨rfl, N11q, K11, Fk11, q, Fq11⟩ := hQ11
        have N11 := Fr.app NL9 N11q
        obtain ⟨X11, hS, hZ, hown⟩ := rebS (n1 := T10.heap.size) hS (by rw [e10]; exact hk) X11 hS11 hg11 hZ hown
        have hk : T11.heap.size ≤ T11.heap.size := Nat.le_refl _
        have CH11 := CQ11.1
        have CR11 := CR10.trans CQ11
        refine Goes.via st11 ?_
        have Z11 : n0 ≤ T11.heap.size := Nat.le_trans Z10 K11.1
        have E_tt_11 : Exa Z T11.heap tt oNT := A10.keep K11
        show Goes p e below _ (T11.setTop (mkF m 218 (own_L p0 p1 p2 p3 p4 p5 (.val (.int (p0 &&& (7 : Int32)))) (.val (.ref w_ELEMENT)) (.val nv) (.val (.int (p1 &&& (3 : Int32)))) (.val (.ref x5)) (.val (.int (p2 &&& (3 : Int32)))) (.val (.ref c1)) .unset) [(.ref tt)]))
        refine Goes.go (fun t => XS.astore X11.here hx rfl (hb hby at_218) rfl rfl (l' := (own_L p0 p1 p2 p3 p4 p5 (.val (.int (p0 &&& (7 : Int32)))) (.val (.ref w_ELEMENT)) (.val nv) (.val (.int (p1 &&& (3 : Int32)))) (.val (.ref x5)) (.val (.int (p2 &&& (3 : Int32)))) (.val (.ref tt)) .unset)) rfl) ?_
        refine Goes.go (fun t => XS.iload X11.here hx rfl (hb hby at_220) rfl ) ?_
        refine Goes.go (fun t => XS.iconst X11.here hx rfl (hb hby at_222)) ?_
        show Goes p e below _ (T11.setTop (mkF m 223 (own_L p0 p1 p2 p3 p4 p5 (.val (.int (p0 &&& (7 : Int32)))) (.val (.ref w_ELEMENT)) (.val nv) (.val (.int (p1 &&& (3 : Int32)))) (.val (.ref x5)) (.val (.int (p2 &&& (3 : Int32)))) (.val (.ref tt)) .unset) [(.int (1 : Int32)), (.int (p0 &&& (7 : Int32)))]))
        refine Goes.go (fun t => XS.icmpNo X11.here hx rfl (hb hby at_223) rfl (Jvm.Free.XT.ii_ne_f hk1)) ?_
        show Goes p e below _ (T11.setTop (mkF m 226 (own_L p0 p1 p2 p3 p4 p5 (.val (.int (p0 &&& (7 : Int32)))) (.val (.ref w_ELEMENT)) (.val nv) (.val (.int (p1 &&& (3 : Int32)))) (.val (.ref x5)) (.val (.int (p2 &&& (3 : Int32)))) (.val (.ref tt)) .unset) []))
        refine Goes.go (fun t => XS.iconst X11.here hx rfl (hb hby at_226)) ?_
        refine Goes.go (fun t => XS.istore X11.here hx rfl (hb hby at_227) rfl (l' := (own_L p0 p1 p2 p3 p4 p5 (.val (.int (p0 &&& (7 : Int32)))) (.val (.ref w_ELEMENT)) (.val nv) (.val (.int (p1 &&& (3 : Int32)))) (.val (.ref x5)) (.val (.int (p2 &&& (3 : Int32)))) (.val (.ref tt)) (.val (.int (1 : Int32))))) rfl) ?_
        refine Goes.go (fun t => XS.goto X11.here hx rfl (pc0 := 229) (pc' := 262) rfl (hb hby at_229) (by decide) (by decide)) ?_
        refine Goes.go (fun t => XS.aload X11.here hx rfl (hb hby at_262) rfl rfl ) ?_
        show Goes p e below _ (T11.setTop (mkF m 264 (own_L p0 p1 p2 p3 p4 p5 (.val (.int (p0 &&& (7 : Int32)))) (.val (.ref w_ELEMENT)) (.val nv) (.val (.int (p1 &&& (3 : Int32)))) (.val (.ref x5)) (.val (.int (p2 &&& (3 : Int32)))) (.val (.ref tt)) (.val (.int (1 : Int32)))) [(.ref tt)]))
        obtain ⟨cq12, kq12, q12a, q12b, q12c⟩ := isOf hZ rfl E_tt_11
        obtain ⟨_, _, ⟨T12, L12, k12, n12⟩, -, X12, ⟨Lc12, hQ12, l12, y12, z12⟩, st12⟩ := X11.virtualBack hx (y := (⟨oNT, "listedByTree", "()Z"⟩ : MethodName)) (z := (⟨oNT, "listedByTree", "()Z"⟩ : MethodName)) hown (mvT hZ (own_h hw 76 rfl)) (mvT hZ (own_h hw 77 rfl)) (notFace_of_selects (args := #[]) (mvT hZ (own_h hw 79 rfl))) (mvT hZ (own_h hw 79 rfl)) (mvT hZ (own_h hw 78 rfl)) (by decide) (backOf (W := 0) (rmLA l Z a0 hw [] tt w_ELEMENT q T11.heap n0 Z11 Fk11 Fq11) hZ (own_h hw 80 rfl) (own_h hw 50 rfl) (by decide) (by decide)) q12a q12c (g := (mkF m 264 (own_L p0 p1 p2 p3 p4 p5 (.val (.int (p0 &&& (7 : Int32)))) (.val (.ref w_ELEMENT)) (.val nv) (.val (.int (p1 &&& (3 : Int32)))) (.val (.ref x5)) (.val (.int (p2 &&& (3 : Int32)))) (.val (.ref tt)) (.val (.int (1 : Int32)))) [(.ref tt)])) rfl (by rw [hml]; rfl) (Steps.refl _) (argsL := []) (rest := []) (lenOf pd0_3 rfl) rfl (by show 2 * 0 + _ ≤ _; exact Nat.le_of_eq rfl) (hb hby at_264) (fun _ _ => ⟨rfl, rfl, (by decide : 26 + 0 ≤ _), (by decide : 329 + 0 ≤ _)⟩)
        dsimp only [Pt.U, Pt.locs, Pt.cells, Pt.slots] at X12 l12 y12 z12 st12 hQ12
        subst l12 y12 z12
        obtain ⟨rfl, N12q, e12q⟩ := hQ12
        have N12 := Fr.app N11 N12q
        refine Goes.via st12 ?_
        show Goes p e below _ (T12.setTop (mkF m 267 (own_L p0 p1 p2 p3 p4 p5 (.val (.int (p0 &&& (7 : Int32)))) (.val (.ref w_ELEMENT)) (.val nv) (.val (.int (p1 &&& (3 : Int32)))) (.val (.ref x5)) (.val (.int (p2 &&& (3 : Int32)))) (.val (.ref tt)) (.val (.int (1 : Int32)))) [(.int (1 : Int32))]))
        refine Goes.go (fun t => XS.iload X12.here hx rfl (hb hby at_267) rfl ) ?_
        show Goes p e below _ (T12.setTop (mkF m 269 (own_L p0 p1 p2 p3 p4 p5 (.val (.int (p0 &&& (7 : Int32)))) (.val (.ref w_ELEMENT)) (.val nv) (.val (.int (p1 &&& (3 : Int32)))) (.val (.ref x5)) (.val (.int (p2 &&& (3 : Int32)))) (.val (.ref tt)) (.val (.int (1 : Int32)))) [(.int (1 : Int32)), (.int (1 : Int32))]))
        refine Goes.go (fun t => XS.icmpNo X12.here hx rfl (hb hby at_269) rfl (Jvm.Free.XT.ii_ne_f (by decide))) ?_
        show Goes p e below _ (T12.setTop (mkF m 272 (own_L p0 p1 p2 p3 p4 p5 (.val (.int (p0 &&& (7 : Int32)))) (.val (.ref w_ELEMENT)) (.val nv) (.val (.int (p1 &&& (3 : Int32)))) (.val (.ref x5)) (.val (.int (p2 &&& (3 : Int32)))) (.val (.ref tt)) (.val (.int (1 : Int32)))) []))
        refine Goes.go (fun t => XS.iconst X12.here hx rfl (hb hby at_272)) ?_
        refine Goes.go (fun t => XS.goto X12.here hx rfl (pc0 := 273) (pc' := 277) rfl (hb hby at_273) (by decide) (by decide)) ?_
        show Goes p e below _ (T12.setTop (mkF m 277 (own_L p0 p1 p2 p3 p4 p5 (.val (.int (p0 &&& (7 : Int32)))) (.val (.ref w_ELEMENT)) (.val nv) (.val (.int (p1 &&& (3 : Int32)))) (.val (.ref x5)) (.val (.int (p2 &&& (3 : Int32)))) (.val (.ref tt)) (.val (.int (1 : Int32)))) [(.int (1 : Int32))]))
        exact Goes.outW X12 hS (by rw [e12q]; exact hk) (fun h => by rw [Bd.returns] at h; cases h) Bd.notSynchronized (fun fs hr => retN X12 hx (t := .boolean) Bd.returns (by simp) (hb hby at_277) hr) ⟨rfl, N12⟩ (by rw [hh, e12q]; exact CR11.trans (CHv.at X12 hZ (own_ew hw) CH11)) (by decide) (by decide)
      · rcases hsel with ⟨rfl, hsz⟩ | ⟨xn, rfl, hsz⟩
        · show Goes p e below _ (T8.setTop (mkF m 205 (own_L p0 p1 p2 p3 p4 p5 (.val (.int (p0 &&& (7 : Int32)))) (.val .null) (.val .null) (.val (.int (p1 &&& (3 : Int32)))) (.val (.ref x5)) (.val (.int (p2 &&& (3 : Int32)))) (.val (.ref c1)) .unset) []))
          have NS2 := NSv.ext B8
          have V2 := V.ext B8
          have SE2 := SE.ext B8
          have LN2 : own_lnv Z T8.heap (.ref x5) := Or.inr ⟨_, _, rfl, Sx8, (Or.inl ⟨_, rfl, hch2⟩)⟩
          obtain ⟨T13, h13, X13, e13, E13, A13, D13, -, st13⟩ := newO XL9 hx hZ hown (own_h hw 48 rfl) (own_h hw 49 rfl) (own_h hw 50 rfl) rfl (g := (mkF m 205 (own_L p0 p1 p2 p3 p4 p5 (.val (.int (p0 &&& (7 : Int32)))) (.val .null) (.val .null) (.val (.int (p1 &&& (3 : Int32)))) (.val (.ref x5)) (.val (.int (p2 &&& (3 : Int32)))) (.val (.ref c1)) .unset) [])) rfl (hb hby at_205) (by decide) (by decide)
          obtain ⟨tt, gq_tt⟩ : ∃ z, z = T8.heap.size := ⟨_, rfl⟩
          rw [← gq_tt] at A13 D13 st13
          have g_tt : n0 ≤ tt := Nat.le_trans Z8 (Nat.le_of_eq gq_tt.symm)
          have CQ13 := CHr.ext E13 CH8
          have CH13 := CQ13.1
          have CR13 := CR8.trans CQ13
          have hk := Nat.le_trans hk E13.1
          have Z13 : n0 ≤ h13.size := Nat.le_trans Z8 E13.1
          have F_kind_tt_13 : Fld Z h13 tt oNT "kind" "Lcom/example/thames/thames/model/NodeKind;" .null := D13 (Or.inr (own_h hw 59 rfl)) (ty := (.object oNK)) (by decide)
          have F_namespaceUri_tt_13 : Fld Z h13 tt oNT "namespaceUri" "Ljava/lang/String;" .null := D13 (Or.inr (own_h hw 61 rfl)) (ty := (.object "java/lang/String")) (by decide)
          have F_localName_tt_13 : Fld Z h13 tt oNT "localName" "Ljava/lang/String;" .null := D13 (Or.inr (own_h hw 63 rfl)) (ty := (.object "java/lang/String")) (by decide)
          have F_type_tt_13 : Fld Z h13 tt oNT "type" "Lcom/example/thames/thames/model/SchemaType;" .null := D13 (Or.inr (own_h hw 65 rfl)) (ty := (.object "com/example/thames/thames/model/SchemaType")) (by decide)
          have F_elementTest_tt_13 : Fld Z h13 tt oNT "elementTest" "Lcom/example/thames/thames/engine/NodeTest;" .null := D13 (Or.inr (own_h hw 67 rfl)) (ty := (.object oNT)) (by decide)
          have F_elementQuery_tt_13 : Fld Z h13 tt oNT "elementQuery" "Lcom/example/thames/thames/model/ElementQuery;" .null := D13 (Or.inr (own_h hw 75 rfl)) (ty := (.object oEQ)) (by decide)
          refine Goes.go st13 ?_
          have gb_tt : T8.heap.size ≤ tt := Nat.le_of_eq gq_tt.symm
          show Goes p e below _ (T13.setTop (mkF m 208 (own_L p0 p1 p2 p3 p4 p5 (.val (.int (p0 &&& (7 : Int32)))) (.val .null) (.val .null) (.val (.int (p1 &&& (3 : Int32)))) (.val (.ref x5)) (.val (.int (p2 &&& (3 : Int32)))) (.val (.ref c1)) .unset) [(.ref tt)]))
          refine Goes.go (fun t => XS.dup X13.here hx rfl (hb hby at_208) rfl rfl) ?_
          refine Goes.go (fun t => XS.aload X13.here hx rfl (hb hby at_209) rfl rfl ) ?_
          refine Goes.go (fun t => XS.aload X13.here hx rfl (hb hby at_211) rfl rfl ) ?_
          refine Goes.go (fun t => XS.aload X13.here hx rfl (hb hby at_213) rfl rfl ) ?_
          show Goes p e below _ (T13.setTop (mkF m 215 (own_L p0 p1 p2 p3 p4 p5 (.val (.int (p0 &&& (7 : Int32)))) (.val .null) (.val .null) (.val (.int (p1 &&& (3 : Int32)))) (.val (.ref x5)) (.val (.int (p2 &&& (3 : Int32)))) (.val (.ref c1)) .unset) [(.ref x5), .null, .null, (.ref tt), (.ref tt)]))
          obtain ⟨_, _, ⟨T14, L14, k14, n14⟩, -, X14, ⟨Lc14, hQ14, l14, y14, z14⟩, st14⟩ := X13.specialBack hx (y := (⟨oNT, "<init>", "(Lcom/example/thames/thames/model/NodeKind;Ljava/lang/String;Ljava/lang/String;)V"⟩ : MethodName)) rfl hown (mvT hZ (own_h hw 51 rfl)) (mvT hZ (own_h hw 52 rfl)) (mvT hZ (own_h hw 53 rfl)) (by decide) (backOf (W := 1) (rmTN3 l Z a0 hw [] tt .null (.ref x5) w_ELEMENT T8.heap h13 n0 Z13 NS2.isref LN2.isref E13 gb_tt g_tt SE2 A13 F_kind_tt_13 F_namespaceUri_tt_13 F_localName_tt_13 F_type_tt_13 F_elementTest_tt_13 F_elementQuery_tt_13) hZ (own_h hw 53 rfl) (own_h hw 50 rfl) (by decide) (by decide)) (g := (mkF m 215 (own_L p0 p1 p2 p3 p4 p5 (.val (.int (p0 &&& (7 : Int32)))) (.val .null) (.val .null) (.val (.int (p1 &&& (3 : Int32)))) (.val (.ref x5)) (.val (.int (p2 &&& (3 : Int32)))) (.val (.ref c1)) .unset) [(.ref x5), .null, .null, (.ref tt), (.ref tt)])) rfl (by rw [hml]; rfl) (Steps.refl _) (a := tt) (argsL := [.null, .null, (.ref x5)]) (rest := [(.ref tt)]) (lenOf pd0_2 rfl) rfl (by show 2 * 0 + _ ≤ _; exact Nat.le_of_eq rfl) (hb hby at_215) (fun _ _ => ⟨rfl, e13, (by decide : 12 + 0 ≤ _), (by decide : 52 + 0 ≤ _)⟩)
          dsimp only [Pt.U, Pt.locs, Pt.cells, Pt.slots] at X14 l14 y14 z14 st14 hQ14
          subst l14 y14 z14
          obtain ⟨rfl, N14q, K14, Fkind14, FnamespaceUri14, FlocalName14, Ftype14, FelementTest14, FelementQuery14⟩ := hQ14
          have N14 := Fr.app NL9 N14q
          refine Goes.via st14 ?_
          have CQ14 := CHr.keep K14 (sfS (Safe.exa hZ.alike A13 (by decide) (by decide)) sf0) CH13
          have CH14 := CQ14.1
          have CR14 := CR13.trans CQ14
          have hk := Nat.le_trans hk K14.1
          have Z14 : n0 ≤ T14.heap.size := Nat.le_trans Z13 K14.1
          have E_tt_14 : Exa Z T14.heap tt oNT := A13.keep K14
          show Goes p e below _ (T14.setTop (mkF m 218 (own_L p0 p1 p2 p3 p4 p5 (.val (.int (p0 &&& (7 : Int32)))) (.val .null) (.val .null) (.val (.int (p1 &&& (3 : Int32)))) (.val (.ref x5)) (.val (.int (p2 &&& (3 : Int32)))) (.val (.ref c1)) .unset) [(.ref tt)]))
          refine Goes.go (fun t => XS.astore X14.here hx rfl (hb hby at_218) rfl rfl (l' := (own_L p0 p1 p2 p3 p4 p5 (.val (.int (p0 &&& (7 : Int32)))) (.val .null) (.val .null) (.val (.int (p1 &&& (3 : Int32)))) (.val (.ref x5)) (.val (.int (p2 &&& (3 : Int32)))) (.val (.ref tt)) .unset)) rfl) ?_
          refine Goes.go (fun t => XS.iload X14.here hx rfl (hb hby at_220) rfl ) ?_
          refine Goes.go (fun t => XS.iconst X14.here hx rfl (hb hby at_222)) ?_
          show Goes p e below _ (T14.setTop (mkF m 223 (own_L p0 p1 p2 p3 p4 p5 (.val (.int (p0 &&& (7 : Int32)))) (.val .null) (.val .null) (.val (.int (p1 &&& (3 : Int32)))) (.val (.ref x5)) (.val (.int (p2 &&& (3 : Int32)))) (.val (.ref tt)) .unset) [(.int (1 : Int32)), (.int (p0 &&& (7 : Int32)))]))
          refine Goes.go (fun t => XS.icmpYes X14.here hx rfl (pc0 := 223) (pc' := 232) rfl (hb hby at_223) rfl (Jvm.Free.XT.ii_ne_t (by rw [hk7]; decide)) (by decide) (by decide)) ?_
          show Goes p e below _ (T14.setTop (mkF m 232 (own_L p0 p1 p2 p3 p4 p5 (.val (.int (p0 &&& (7 : Int32)))) (.val .null) (.val .null) (.val (.int (p1 &&& (3 : Int32)))) (.val (.ref x5)) (.val (.int (p2 &&& (3 : Int32)))) (.val (.ref tt)) .unset) []))
          refine Goes.go (fun t => XS.iload X14.here hx rfl (hb hby at_232) rfl ) ?_
          refine Goes.go (fun t => XS.bipush X14.here hx rfl (hb hby at_234)) ?_
          show Goes p e below _ (T14.setTop (mkF m 236 (own_L p0 p1 p2 p3 p4 p5 (.val (.int (p0 &&& (7 : Int32)))) (.val .null) (.val .null) (.val (.int (p1 &&& (3 : Int32)))) (.val (.ref x5)) (.val (.int (p2 &&& (3 : Int32)))) (.val (.ref tt)) .unset) [(.int (7 : Int32)), (.int (p0 &&& (7 : Int32)))]))
          refine Goes.go (fun t => XS.icmpNo X14.here hx rfl (hb hby at_236) rfl (Jvm.Free.XT.ii_ne_f hk7)) ?_
          show Goes p e below _ (T14.setTop (mkF m 239 (own_L p0 p1 p2 p3 p4 p5 (.val (.int (p0 &&& (7 : Int32)))) (.val .null) (.val .null) (.val (.int (p1 &&& (3 : Int32)))) (.val (.ref x5)) (.val (.int (p2 &&& (3 : Int32)))) (.val (.ref tt)) .unset) []))
          refine Goes.go (fun t => XS.iload X14.here hx rfl (hb hby at_239) rfl ) ?_
          show Goes p e below _ (T14.setTop (mkF m 241 (own_L p0 p1 p2 p3 p4 p5 (.val (.int (p0 &&& (7 : Int32)))) (.val .null) (.val .null) (.val (.int (p1 &&& (3 : Int32)))) (.val (.ref x5)) (.val (.int (p2 &&& (3 : Int32)))) (.val (.ref tt)) .unset) [(.int (p1 &&& (3 : Int32)))]))
          refine Goes.go (fun t => XS.ifNo X14.here hx rfl (hb hby at_241) rfl (Jvm.Free.XT.i0_ne_f hsz)) ?_
          show Goes p e below _ (T14.setTop (mkF m 244 (own_L p0 p1 p2 p3 p4 p5 (.val (.int (p0 &&& (7 : Int32)))) (.val .null) (.val .null) (.val (.int (p1 &&& (3 : Int32)))) (.val (.ref x5)) (.val (.int (p2 &&& (3 : Int32)))) (.val (.ref tt)) .unset) []))
          refine Goes.go (fun t => XS.iload X14.here hx rfl (hb hby at_244) rfl ) ?_
          show Goes p e below _ (T14.setTop (mkF m 246 (own_L p0 p1 p2 p3 p4 p5 (.val (.int (p0 &&& (7 : Int32)))) (.val .null) (.val .null) (.val (.int (p1 &&& (3 : Int32)))) (.val (.ref x5)) (.val (.int (p2 &&& (3 : Int32)))) (.val (.ref tt)) .unset) [(.int (p2 &&& (3 : Int32)))]))
          refine Goes.go (fun t => XS.ifYes X14.here hx rfl (pc0 := 246) (pc' := 253) rfl (hb hby at_246) rfl (Jvm.Free.XT.i0_ne_t (by rw [hc125]; decide)) (by decide) (by decide)) ?_
          show Goes p e below _ (T14.setTop (mkF m 253 (own_L p0 p1 p2 p3 p4 p5 (.val (.int (p0 &&& (7 : Int32)))) (.val .null) (.val .null) (.val (.int (p1 &&& (3 : Int32)))) (.val (.ref x5)) (.val (.int (p2 &&& (3 : Int32)))) (.val (.ref tt)) .unset) []))
          refine Goes.go (fun t => XS.iconst X14.here hx rfl (hb hby at_253)) ?_
          refine Goes.go (fun t => XS.istore X14.here hx rfl (hb hby at_254) rfl (l' := (own_L p0 p1 p2 p3 p4 p5 (.val (.int (p0 &&& (7 : Int32)))) (.val .null) (.val .null) (.val (.int (p1 &&& (3 : Int32)))) (.val (.ref x5)) (.val (.int (p2 &&& (3 : Int32)))) (.val (.ref tt)) (.val (.int (0 : Int32))))) rfl) ?_
          refine Goes.go (fun t => XS.goto X14.here hx rfl (pc0 := 256) (pc' := 262) rfl (hb hby at_256) (by decide) (by decide)) ?_
          refine Goes.go (fun t => XS.aload X14.here hx rfl (hb hby at_262) rfl rfl ) ?_
          show Goes p e below _ (T14.setTop (mkF m 264 (own_L p0 p1 p2 p3 p4 p5 (.val (.int (p0 &&& (7 : Int32)))) (.val .null) (.val .null) (.val (.int (p1 &&& (3 : Int32)))) (.val (.ref x5)) (.val (.int (p2 &&& (3 : Int32)))) (.val (.ref tt)) (.val (.int (0 : Int32)))) [(.ref tt)]))
          obtain ⟨cq15, kq15, q15a, q15b, q15c⟩ := isOf hZ rfl E_tt_14
          obtain ⟨_, _, ⟨T15, L15, k15, n15⟩, -, X15, ⟨Lc15, hQ15, l15, y15, z15⟩, st15⟩ := X14.virtualBack hx (y := (⟨oNT, "listedByTree", "()Z"⟩ : MethodName)) (z := (⟨oNT, "listedByTree", "()Z"⟩ : MethodName)) hown (mvT hZ (own_h hw 76 rfl)) (mvT hZ (own_h hw 77 rfl)) (notFace_of_selects (args := #[]) (mvT hZ (own_h hw 79 rfl))) (mvT hZ (own_h hw 79 rfl)) (mvT hZ (own_h hw 78 rfl)) (by decide) (backOf (W := 0) (rmLD l Z a0 hw [] tt x5 T14.heap n0 Z14 Fkind14 FnamespaceUri14 FlocalName14 FelementQuery14) hZ (own_h hw 80 rfl) (own_h hw 50 rfl) (by decide) (by decide)) q15a q15c (g := (mkF m 264 (own_L p0 p1 p2 p3 p4 p5 (.val (.int (p0 &&& (7 : Int32)))) (.val .null) (.val .null) (.val (.int (p1 &&& (3 : Int32)))) (.val (.ref x5)) (.val (.int (p2 &&& (3 : Int32)))) (.val (.ref tt)) (.val (.int (0 : Int32)))) [(.ref tt)])) rfl (by rw [hml]; rfl) (Steps.refl _) (argsL := []) (rest := []) (lenOf pd0_3 rfl) rfl (by show 2 * 0 + _ ≤ _; exact Nat.le_of_eq rfl) (hb hby at_264) (fun _ _ => ⟨rfl, rfl, (by decide : 12 + 0 ≤ _), (by decide : 52 + 0 ≤ _)⟩)
          dsimp only [Pt.U, Pt.locs, Pt.cells, Pt.slots] at X15 l15 y15 z15 st15 hQ15
          subst l15 y15 z15
          obtain ⟨rfl, N15q, e15q⟩ := hQ15
          have N15 := Fr.app N14 N15q
          refine Goes.via st15 ?_
          show Goes p e below _ (T15.setTop (mkF m 267 (own_L p0 p1 p2 p3 p4 p5 (.val (.int (p0 &&& (7 : Int32)))) (.val .null) (.val .null) (.val (.int (p1 &&& (3 : Int32)))) (.val (.ref x5)) (.val (.int (p2 &&& (3 : Int32)))) (.val (.ref tt)) (.val (.int (0 : Int32)))) [(.int (0 : Int32))]))
          refine Goes.go (fun t => XS.iload X15.here hx rfl (hb hby at_267) rfl ) ?_
          show Goes p e below _ (T15.setTop (mkF m 269 (own_L p0 p1 p2 p3 p4 p5 (.val (.int (p0 &&& (7 : Int32)))) (.val .null) (.val .null) (.val (.int (p1 &&& (3 : Int32)))) (.val (.ref x5)) (.val (.int (p2 &&& (3 : Int32)))) (.val (.ref tt)) (.val (.int (0 : Int32)))) [(.int (0 : Int32)), (.int (0 : Int32))]))
          refine Goes.go (fun t => XS.icmpNo X15.here hx rfl (hb hby at_269) rfl (Jvm.Free.XT.ii_ne_f (by decide))) ?_
          show Goes p e below _ (T15.setTop (mkF m 272 (own_L p0 p1 p2 p3 p4 p5 (.val (.int (p0 &&& (7 : Int32)))) (.val .null) (.val .null) (.val (.int (p1 &&& (3 : Int32)))) (.val (.ref x5)) (.val (.int (p2 &&& (3 : Int32)))) (.val (.ref tt)) (.val (.int (0 : Int32)))) []))
          refine Goes.go (fun t => XS.iconst X15.here hx rfl (hb hby at_272)) ?_
          refine Goes.go (fun t => XS.goto X15.here hx rfl (pc0 := 273) (pc' := 277) rfl (hb hby at_273) (by decide) (by decide)) ?_
          show Goes p e below _ (T15.setTop (mkF m 277 (own_L p0 p1 p2 p3 p4 p5 (.val (.int (p0 &&& (7 : Int32)))) (.val .null) (.val .null) (.val (.int (p1 &&& (3 : Int32)))) (.val (.ref x5)) (.val (.int (p2 &&& (3 : Int32)))) (.val (.ref tt)) (.val (.int (0 : Int32)))) [(.int (1 : Int32))]))
          exact Goes.outW X15 hS (by rw [e15q]; exact hk) (fun h => by rw [Bd.returns] at h; cases h) Bd.notSynchronized (fun fs hr => retN X15 hx (t := .boolean) Bd.returns (by simp) (hb hby at_277) hr) ⟨rfl, N15⟩ (by rw [hh, e15q]; exact CR14.trans (CHv.at X15 hZ (own_ew hw) CH14)) (by decide) (by decide)
        · show Goes p e below _ (T8.setTop (mkF m 205 (own_L p0 p1 p2 p3 p4 p5 (.val (.int (p0 &&& (7 : Int32)))) (.val .null) (.val (.ref xn)) (.val (.int (p1 &&& (3 : Int32)))) (.val (.ref x5)) (.val (.int (p2 &&& (3 : Int32)))) (.val (.ref c1)) .unset) []))
          have NS2 := NSv.ext B8
          have V2 := V.ext B8
          have SE2 := SE.ext B8
          have LN2 : own_lnv Z T8.heap (.ref x5) := Or.inr ⟨_, _, rfl, Sx8, (Or.inl ⟨_, rfl, hch2⟩)⟩
          obtain ⟨T16, h16, X16, e16, E16, A16, D16, -, st16⟩ := newO XL9 hx hZ hown (own_h hw 48 rfl) (own_h hw 49 rfl) (own_h hw 50 rfl) rfl (g := (mkF m 205 (own_L p0 p1 p2 p3 p4 p5 (.val (.int (p0 &&& (7 : Int32)))) (.val .null) (.val (.ref xn)) (.val (.int (p1 &&& (3 : Int32)))) (.val (.ref x5)) (.val (.int (p2 &&& (3 : Int32)))) (.val (.ref c1)) .unset) [])) rfl (hb hby at_205) (by decide) (by decide)
          obtain ⟨tt, gq_tt⟩ : ∃ z, z = T8.heap.size := ⟨_, rfl⟩
          rw [← gq_tt] at A16 D16 st16
          have g_tt : n0 ≤ tt := Nat.le_trans Z8 (Nat.le_of_eq gq_tt.symm)
          have CQ16 := CHr.ext E16 CH8
          have CH16 := CQ16.1
          have CR16 := CR8.trans CQ16
          have hk := Nat.le_trans hk E16.1
          have Z16 : n0 ≤ h16.size := Nat.le_trans Z8 E16.1
          have F_kind_tt_16 : Fld Z h16 tt oNT "kind" "Lcom/example/thames/thames/model/NodeKind;" .null := D16 (Or.inr (own_h hw 59 rfl)) (ty := (.object oNK)) (by decide)
          have F_namespaceUri_tt_16 : Fld Z h16 tt oNT "namespaceUri" "Ljava/lang/String;" .null := D16 (Or.inr (own_h hw 61 rfl)) (ty := (.object "java/lang/String")) (by decide)
          have F_localName_tt_16 : Fld Z h16 tt oNT "localName" "Ljava/lang/String;" .null := D16 (Or.inr (own_h hw 63 rfl)) (ty := (.object "java/lang/String")) (by decide)
          have F_type_tt_16 : Fld Z h16 tt oNT "type" "Lcom/example/thames/thames/model/SchemaType;" .null := D16 (Or.inr (own_h hw 65 rfl)) (ty := (.object "com/example/thames/thames/model/SchemaType")) (by decide)
          have F_elementTest_tt_16 : Fld Z h16 tt oNT "elementTest" "Lcom/example/thames/thames/engine/NodeTest;" .null := D16 (Or.inr (own_h hw 67 rfl)) (ty := (.object oNT)) (by decide)
          have F_elementQuery_tt_16 : Fld Z h16 tt oNT "elementQuery" "Lcom/example/thames/thames/model/ElementQuery;" .null := D16 (Or.inr (own_h hw 75 rfl)) (ty := (.object oEQ)) (by decide)
          refine Goes.go st16 ?_
          have gb_tt : T8.heap.size ≤ tt := Nat.le_of_eq gq_tt.symm
          show Goes p e below _ (T16.setTop (mkF m 208 (own_L p0 p1 p2 p3 p4 p5 (.val (.int (p0 &&& (7 : Int32)))) (.val .null) (.val (.ref xn)) (.val (.int (p1 &&& (3 : Int32)))) (.val (.ref x5)) (.val (.int (p2 &&& (3 : Int32)))) (.val (.ref c1)) .unset) [(.ref tt)]))
          refine Goes.go (fun t => XS.dup X16.here hx rfl (hb hby at_208) rfl rfl) ?_
          refine Goes.go (fun t => XS.aload X16.here hx rfl (hb hby at_209) rfl rfl ) ?_
          refine Goes.go (fun t => XS.aload X16.here hx rfl (hb hby at_211) rfl rfl ) ?_
          refine Goes.go (fun t => XS.aload X16.here hx rfl (hb hby at_213) rfl rfl ) ?_
          show Goes p e below _ (T16.setTop (mkF m 215 (own_L p0 p1 p2 p3 p4 p5 (.val (.int (p0 &&& (7 : Int32)))) (.val .null) (.val (.ref xn)) (.val (.int (p1 &&& (3 : Int32)))) (.val (.ref x5)) (.val (.int (p2 &&& (3 : Int32)))) (.val (.ref c1)) .unset) [(.ref x5), (.ref xn), .null, (.ref tt), (.ref tt)]))
          obtain ⟨_, _, ⟨T17, L17, k17, n17⟩, -, X17, ⟨Lc17, hQ17, l17, y17, z17⟩, st17⟩ := X16.specialBack hx (y := (⟨oNT, "<init>", "(Lcom/example/thames/thames/model/NodeKind;Ljava/lang/String;Ljava/lang/String;)V"⟩ : MethodName)) rfl hown (mvT hZ (own_h hw 51 rfl)) (mvT hZ (own_h hw 52 rfl)) (mvT hZ (own_h hw 53 rfl)) (by decide) (backOf (W := 1) (rmTN3 l Z a0 hw [] tt (.ref xn) (.ref x5) w_ELEMENT T8.heap h16 n0 Z16 NS2.isref LN2.isref E16 gb_tt g_tt SE2 A16 F_kind_tt_16 F_namespaceUri_tt_16 F_localName_tt_16 F_type_tt_16 F_elementTest_tt_16 F_elementQuery_tt_16) hZ (own_h hw 53 rfl) (own_h hw 50 rfl) (by decide) (by decide)) (g := (mkF m 215 (own_L p0 p1 p2 p3 p4 p5 (.val (.int (p0 &&& (7 : Int32)))) (.val .null) (.val (.ref xn)) (.val (.int (p1 &&& (3 : Int32)))) (.val (.ref x5)) (.val (.int (p2 &&& (3 : Int32)))) (.val (.ref c1)) .unset) [(.ref x5), (.ref xn), .null, (.ref tt), (.ref tt)])) rfl (by rw [hml]; rfl) (Steps.refl _) (a := tt) (argsL := [.null, (.ref xn), (.ref x5)]) (rest := [(.ref tt)]) (lenOf pd0_2 rfl) rfl (by show 2 * 0 + _ ≤ _; exact Nat.le_of_eq rfl) (hb hby at_215) (fun _ _ => ⟨rfl, e16, (by decide : 12 + 0 ≤ _), (by decide : 52 + 0 ≤ _)⟩)
          dsimp only [Pt.U, Pt.locs, Pt.cells, Pt.slots] at X17 l17 y17 z17 st17 hQ17
          subst l17 y17 z17
          obtain ⟨rfl, N17q, K17, Fkind17, FnamespaceUri17, FlocalName17, Ftype17, FelementTest17, FelementQuery17⟩ := hQ17
          have N17 := Fr.app NL9 N17q
          refine Goes.via st17 ?_
          have CQ17 := CHr.keep K17 (sfS (Safe.exa hZ.alike A16 (by decide) (by decide)) sf0) CH16
          have CH17 := CQ17.1
          have CR17 := CR16.trans CQ17
          have hk := Nat.le_trans hk K17.1
          have Z17 : n0 ≤ T17.heap.size := Nat.le_trans Z16 K17.1
          have E_tt_17 : Exa Z T17.heap tt oNT := A16.keep K17
          show Goes p e below _ (T17.setTop (mkF m 218 (own_L p0 p1 p2 p3 p4 p5 (.val (.int (p0 &&& (7 : Int32)))) (.val .null) (.val (.ref xn)) (.val (.int (p1 &&& (3 : Int32)))) (.val (.ref x5)) (.val (.int (p2 &&& (3 : Int32)))) (.val (.ref c1)) .unset) [(.ref tt)]))
          refine Goes.go (fun t => XS.astore X17.here hx rfl (hb hby at_218) rfl rfl (l' := (own_L p0 p1 p2 p3 p4 p5 (.val (.int (p0 &&& (7 : Int32)))) (.val .null) (.val (.ref xn)) (.val (.int (p1 &&& (3 : Int32)))) (.val (.ref x5)) (.val (.int (p2 &&& (3 : Int32)))) (.val (.ref tt)) .unset)) rfl) ?_
          refine Goes.go (fun t => XS.iload X17.here hx rfl (hb hby at_220) rfl ) ?_
          refine Goes.go (fun t => XS.iconst X17.here hx rfl (hb hby at_222)) ?_
          show Goes p e below _ (T17.setTop (mkF m 223 (own_L p0 p1 p2 p3 p4 p5 (.val (.int (p0 &&& (7 : Int32)))) (.val .null) (.val (.ref xn)) (.val (.int (p1 &&& (3 : Int32)))) (.val (.ref x5)) (.val (.int (p2 &&& (3 : Int32)))) (.val (.ref tt)) .unset) [(.int (1 : Int32)), (.int (p0 &&& (7 : Int32)))]))
          refine Goes.go (fun t => XS.icmpYes X17.here hx rfl (pc0 := 223) (pc' := 232) rfl (hb hby at_223) rfl (Jvm.Free.XT.ii_ne_t (by rw [hk7]; decide)) (by decide) (by decide)) ?_
          show Goes p e below _ (T17.setTop (mkF m 232 (own_L p0 p1 p2 p3 p4 p5 (.val (.int (p0 &&& (7 : Int32)))) (.val .null) (.val (.ref xn)) (.val (.int (p1 &&& (3 : Int32)))) (.val (.ref x5)) (.val (.int (p2 &&& (3 : Int32)))) (.val (.ref tt)) .unset) []))
          refine Goes.go (fun t => XS.iload X17.here hx rfl (hb hby at_232) rfl ) ?_
          refine Goes.go (fun t => XS.bipush X17.here hx rfl (hb hby at_234)) ?_
          show Goes p e below _ (T17.setTop (mkF m 236 (own_L p0 p1 p2 p3 p4 p5 (.val (.int (p0 &&& (7 : Int32)))) (.val .null) (.val (.ref xn)) (.val (.int (p1 &&& (3 : Int32)))) (.val (.ref x5)) (.val (.int (p2 &&& (3 : Int32)))) (.val (.ref tt)) .unset) [(.int (7 : Int32)), (.int (p0 &&& (7 : Int32)))]))
          refine Goes.go (fun t => XS.icmpNo X17.here hx rfl (hb hby at_236) rfl (Jvm.Free.XT.ii_ne_f hk7)) ?_
          show Goes p e below _ (T17.setTop (mkF m 239 (own_L p0 p1 p2 p3 p4 p5 (.val (.int (p0 &&& (7 : Int32)))) (.val .null) (.val (.ref xn)) (.val (.int (p1 &&& (3 : Int32)))) (.val (.ref x5)) (.val (.int (p2 &&& (3 : Int32)))) (.val (.ref tt)) .unset) []))
          refine Goes.go (fun t => XS.iload X17.here hx rfl (hb hby at_239) rfl ) ?_
          show Goes p e below _ (T17.setTop (mkF m 241 (own_L p0 p1 p2 p3 p4 p5 (.val (.int (p0 &&& (7 : Int32)))) (.val .null) (.val (.ref xn)) (.val (.int (p1 &&& (3 : Int32)))) (.val (.ref x5)) (.val (.int (p2 &&& (3 : Int32)))) (.val (.ref tt)) .unset) [(.int (p1 &&& (3 : Int32)))]))
          refine Goes.go (fun t => XS.ifYes X17.here hx rfl (pc0 := 241) (pc' := 253) rfl (hb hby at_241) rfl (Jvm.Free.XT.i0_ne_t hsz) (by decide) (by decide)) ?_
          show Goes p e below _ (T17.setTop (mkF m 253 (own_L p0 p1 p2 p3 p4 p5 (.val (.int (p0 &&& (7 : Int32)))) (.val .null) (.val (.ref xn)) (.val (.int (p1 &&& (3 : Int32)))) (.val (.ref x5)) (.val (.int (p2 &&& (3 : Int32)))) (.val (.ref tt)) .unset) []))
          refine Goes.go (fun t => XS.iconst X17.here hx rfl (hb hby at_253)) ?_
          refine Goes.go (fun t => XS.istore X17.here hx rfl (hb hby at_254) rfl (l' := (own_L p0 p1 p2 p3 p4 p5 (.val (.int (p0 &&& (7 : Int32)))) (.val .null) (.val (.ref xn)) (.val (.int (p1 &&& (3 : Int32)))) (.val (.ref x5)) (.val (.int (p2 &&& (3 : Int32)))) (.val (.ref tt)) (.val (.int (0 : Int32))))) rfl) ?_
          refine Goes.go (fun t => XS.goto X17.here hx rfl (pc0 := 256) (pc' := 262) rfl (hb hby at_256) (by decide) (by decide)) ?_
          refine Goes.go (fun t => XS.aload X17.here hx rfl (hb hby at_262) rfl rfl ) ?_
          show Goes p e below _ (T17.setTop (mkF m 264 (own_L p0 p1 p2 p3 p4 p5 (.val (.int (p0 &&& (7 : Int32)))) (.val .null) (.val (.ref xn)) (.val (.int (p1 &&& (3 : Int32)))) (.val (.ref x5)) (.val (.int (p2 &&& (3 : Int32)))) (.val (.ref tt)) (.val (.int (0 : Int32)))) [(.ref tt)]))
          obtain ⟨cq18, kq18, q18a, q18b, q18c⟩ := isOf hZ rfl E_tt_17
          obtain ⟨_, _, ⟨T18, L18, k18, n18⟩, -, X18, ⟨Lc18, hQ18, l18, y18, z18⟩, st18⟩ := X17.virtualBack hx (y := (⟨oNT, "listedByTree", "()Z"⟩ : MethodName)) (z := (⟨oNT, "listedByTree", "()Z"⟩ : MethodName)) hown (mvT hZ (own_h hw 76 rfl)) (mvT hZ (own_h hw 77 rfl)) (notFace_of_selects (args := #[]) (mvT hZ (own_h hw 79 rfl))) (mvT hZ (own_h hw 79 rfl)) (mvT hZ (own_h hw 78 rfl)) (by decide) (backOf (W := 0) (rmLE l Z a0 hw [] tt xn T17.heap n0 Z17 Fkind17 FnamespaceUri17 FelementQuery17) hZ (own_h hw 80 rfl) (own_h hw 50 rfl) (by decide) (by decide)) q18a q18c (g := (mkF m 264 (own_L p0 p1 p2 p3 p4 p5 (.val (.int (p0 &&& (7 : Int32)))) (.val .null) (.val (.ref xn)) (.val (.int (p1 &&& (3 : Int32)))) (.val (.ref x5)) (.val (.int (p2 &&& (3 : Int32)))) (.val (.ref tt)) (.val (.int (0 : Int32)))) [(.ref tt)])) rfl (by rw [hml]; rfl) (Steps.refl _) (argsL := []) (rest := []) (lenOf pd0_3 rfl) rfl (by show 2 * 0 + _ ≤ _; exact Nat.le_of_eq rfl) (hb hby at_264) (fun _ _ => ⟨rfl, rfl, (by decide : 12 + 0 ≤ _), (by decide : 52 + 0 ≤ _)⟩)
          dsimp only [Pt.U, Pt.locs, Pt.cells, Pt.slots] at X18 l18 y18 z18 st18 hQ18
          subst l18 y18 z18
          obtain ⟨rfl, N18q, e18q⟩ := hQ18
          have N18 := Fr.app N17 N18q
          refine Goes.via st18 ?_
          show Goes p e below _ (T18.setTop (mkF m 267 (own_L p0 p1 p2 p3 p4 p5 (.val (.int (p0 &&& (7 : Int32)))) (.val .null) (.val (.ref xn)) (.val (.int (p1 &&& (3 : Int32)))) (.val (.ref x5)) (.val (.int (p2 &&& (3 : Int32)))) (.val (.ref tt)) (.val (.int (0 : Int32)))) [(.int (0 : Int32))]))
          refine Goes.go (fun t => XS.iload X18.here hx rfl (hb hby at_267) rfl ) ?_
          show Goes p e below _ (T18.setTop (mkF m 269 (own_L p0 p1 p2 p3 p4 p5 (.val (.int (p0 &&& (7 : Int32)))) (.val .null) (.val (.ref xn)) (.val (.int (p1 &&& (3 : Int32)))) (.val (.ref x5)) (.val (.int (p2 &&& (3 : Int32)))) (.val (.ref tt)) (.val (.int (0 : Int32)))) [(.int (0 : Int32)), (.int (0 : Int32))]))
          refine Goes.go (fun t => XS.icmpNo X18.here hx rfl (hb hby at_269) rfl (Jvm.Free.XT.ii_ne_f (by decide))) ?_
          show Goes p e below _ (T18.setTop (mkF m 272 (own_L p0 p1 p2 p3 p4 p5 (.val (.int (p0 &&& (7 : Int32)))) (.val .null) (.val (.ref xn)) (.val (.int (p1 &&& (3 : Int32)))) (.val (.ref x5)) (.val (.int (p2 &&& (3 : Int32)))) (.val (.ref tt)) (.val (.int (0 : Int32)))) []))
          refine Goes.go (fun t => XS.iconst X18.here hx rfl (hb hby at_272)) ?_
          refine Goes.go (fun t => XS.goto X18.here hx rfl (pc0 := 273) (pc' := 277) rfl (hb hby at_273) (by decide) (by decide)) ?_
          show Goes p e below _ (T18.setTop (mkF m 277 (own_L p0 p1 p2 p3 p4 p5 (.val (.int (p0 &&& (7 : Int32)))) (.val .null) (.val (.ref xn)) (.val (.int (p1 &&& (3 : Int32)))) (.val (.ref x5)) (.val (.int (p2 &&& (3 : Int32)))) (.val (.ref tt)) (.val (.int (0 : Int32)))) [(.int (1 : Int32))]))
          exact Goes.outW X18 hS (by rw [e18q]; exact hk) (fun h => by rw [Bd.returns] at h; cases h) Bd.notSynchronized (fun fs hr => retN X18 hx (t := .boolean) Bd.returns (by simp) (hb hby at_277) hr) ⟨rfl, N18⟩ (by rw [hh, e18q]; exact CR17.trans (CHv.at X18 hZ (own_ew hw) CH17)) (by decide) (by decide)
      · show Goes p e below _ (T8.setTop (mkF m 205 (own_L p0 p1 p2 p3 p4 p5 (.val (.int (p0 &&& (7 : Int32)))) (.val (.ref w)) (.val nv) (.val (.int (p1 &&& (3 : Int32)))) (.val (.ref x5)) (.val (.int (p2 &&& (3 : Int32)))) (.val (.ref c1)) .unset) []))
        have NS2 := NSv.ext B8
        have V2 := V.ext B8
        have SE2 := SE.ext B8
        have LN2 : own_lnv Z T8.heap (.ref x5) := Or.inr ⟨_, _, rfl, Sx8, (Or.inl ⟨_, rfl, hch2⟩)⟩
        obtain ⟨T19, h19, X19, e19, E19, A19, D19, -, st19⟩ := newO XL9 hx hZ hown (own_h hw 48 rfl) (own_h hw 49 rfl) (own_h hw 50 rfl) rfl (g := (mkF m 205 (own_L p0 p1 p2 p3 p4 p5 (.val (.int (p0 &&& (7 : Int32)))) (.val (.ref w)) (.val nv) (.val (.int (p1 &&& (3 : Int32)))) (.val (.ref x5)) (.val (.int (p2 &&& (3 : Int32)))) (.val (.ref c1)) .unset) [])) rfl (hb hby at_205) (by decide) (by decide)
        obtain ⟨tt, gq_tt⟩ : ∃ z, z = T8.heap.size := ⟨_, rfl⟩
        rw [← gq_tt] at A19 D19 st19
        have g_tt : n0 ≤ tt := Nat.le_trans Z8 (Nat.le_of_eq gq_tt.symm)
        have CQ19 := CHr.ext E19 CH8
        have CH19 := CQ19.1
        have CR19 := CR8.trans CQ19
        have hk := Nat.le_trans hk E19.1
        have Z19 : n0 ≤ h19.size := Nat.le_trans Z8 E19.1
        have F_kind_tt_19 : Fld Z h19 tt oNT "kind" "Lcom/example/thames/thames/model/NodeKind;" .null := D19 (Or.inr (own_h hw 59 rfl)) (ty := (.object oNK)) (by decide)
        have F_namespaceUri_tt_19 : Fld Z h19 tt oNT "namespaceUri" "Ljava/lang/String;" .null := D19 (Or.inr (own_h hw 61 rfl)) (ty := (.object "java/lang/String")) (by decide)
        have F_localName_tt_19 : Fld Z h19 tt oNT "localName" "Ljava/lang/String;" .null := D19 (Or.inr (own_h hw 63 rfl)) (ty := (.object "java/lang/String")) (by decide)
        have F_type_tt_19 : Fld Z h19 tt oNT "type" "Lcom/example/thames/thames/model/SchemaType;" .null := D19 (Or.inr (own_h hw 65 rfl)) (ty := (.object "com/example/thames/thames/model/SchemaType")) (by decide)
        have F_elementTest_tt_19 : Fld Z h19 tt oNT "elementTest" "Lcom/example/thames/thames/engine/NodeTest;" .null := D19 (Or.inr (own_h hw 67 rfl)) (ty := (.object oNT)) (by decide)
        have F_elementQuery_tt_19 : Fld Z h19 tt oNT "elementQuery" "Lcom/example/thames/thames/model/ElementQuery;" .null := D19 (Or.inr (own_h hw 75 rfl)) (ty := (.object oEQ)) (by decide)
        refine Goes.go st19 ?_
        have gb_tt : T8.heap.size ≤ tt := Nat.le_of_eq gq_tt.symm
        show Goes p e below _ (T19.setTop (mkF m 208 (own_L p0 p1 p2 p3 p4 p5 (.val (.int (p0 &&& (7 : Int32)))) (.val (.ref w)) (.val nv) (.val (.int (p1 &&& (3 : Int32)))) (.val (.ref x5)) (.val (.int (p2 &&& (3 : Int32)))) (.val (.ref c1)) .unset) [(.ref tt)]))
        refine Goes.go (fun t => XS.dup X19.here hx rfl (hb hby at_208) rfl rfl) ?_
        refine Goes.go (fun t => XS.aload X19.here hx rfl (hb hby at_209) rfl rfl ) ?_
        refine Goes.go (fun t => XS.aload X19.here hx rfl (hb hby at_211) rfl (by assumption) ) ?_
        refine Goes.go (fun t => XS.aload X19.here hx rfl (hb hby at_213) rfl rfl ) ?_
        show Goes p e below _ (T19.setTop (mkF m 215 (own_L p0 p1 p2 p3 p4 p5 (.val (.int (p0 &&& (7 : Int32)))) (.val (.ref w)) (.val nv) (.val (.int (p1 &&& (3 : Int32)))) (.val (.ref x5)) (.val (.int (p2 &&& (3 : Int32)))) (.val (.ref c1)) .unset) [(.ref x5), nv, (.ref w), (.ref tt), (.ref tt)]))
        obtain ⟨_, _, ⟨T20, L20, k20, n20⟩, -, X20, ⟨Lc20, hQ20, l20, y20, z20⟩, st20⟩ := X19.specialBack hx (y := (⟨oNT, "<init>", "(Lcom/example/thames/thames/model/NodeKind;Ljava/lang/String;Ljava/lang/String;)V"⟩ : MethodName)) rfl hown (mvT hZ (own_h hw 51 rfl)) (mvT hZ (own_h hw 52 rfl)) (mvT hZ (own_h hw 53 rfl)) (by decide) (backOf (W := 1) (rmTW3 l Z a0 hw [] tt w nv (.ref x5) w_ELEMENT T8.heap h19 n0 Z19 NS2.isref LN2.isref E19 gb_tt g_tt SE2 A19 F_kind_tt_19 F_namespaceUri_tt_19 F_localName_tt_19 F_type_tt_19 F_elementTest_tt_19 F_elementQuery_tt_19 hne) hZ (own_h hw 53 rfl) (own_h hw 50 rfl) (by decide) (by decide)) (g := (mkF m 215 (own_L p0 p1 p2 p3 p4 p5 (.val (.int (p0 &&& (7 : Int32)))) (.val (.ref w)) (.val nv) (.val (.int (p1 &&& (3 : Int32)))) (.val (.ref x5)) (.val (.int (p2 &&& (3 : Int32)))) (.val (.ref c1)) .unset) [(.ref x5), nv, (.ref w), (.ref tt), (.ref tt)])) rfl (by rw [hml]; rfl) (Steps.refl _) (a := tt) (argsL := [(.ref w), nv, (.ref x5)]) (rest := [(.ref tt)]) (lenOf pd0_2 rfl) rfl (by show 2 * 0 + _ ≤ _; exact Nat.le_of_eq rfl) (hb hby at_215) (fun _ _ => ⟨rfl, e19, (by decide : 12 + 0 ≤ _), (by decide : 52 + 0 ≤ _)⟩)
        dsimp only [Pt.U, Pt.locs, Pt.cells, Pt.slots] at X20 l20 y20 z20 st20 hQ20
        subst l20 y20 z20
        obtain ⟨rfl, N20q, K20, Fkind20, FnamespaceUri20, FlocalName20, Ftype20, FelementTest20, FelementQuery20⟩ := hQ20
        have N20 := Fr.app NL9 N20q
        refine Goes.via st20 ?_
        have CQ20 := CHr.keep K20 (sfS (Safe.exa hZ.alike A19 (by decide) (by decide)) sf0) CH19
        have CH20 := CQ20.1
        have CR20 := CR19.trans CQ20
        have hk := Nat.le_trans hk K20.1
        have Z20 : n0 ≤ T20.heap.size := Nat.le_trans Z19 K20.1
        have E_tt_20 : Exa Z T20.heap tt oNT := A19.keep K20
        show Goes p e below _ (T20.setTop (mkF m 218 (own_L p0 p1 p2 p3 p4 p5 (.val (.int (p0 &&& (7 : Int32)))) (.val (.ref w)) (.val nv) (.val (.int (p1 &&& (3 : Int32)))) (.val (.ref x5)) (.val (.int (p2 &&& (3 : Int32)))) (.val (.ref c1)) .unset) [(.ref tt)]))
        refine Goes.go (fun t => XS.astore X20.here hx rfl (hb hby at_218) rfl rfl (l' := (own_L p0 p1 p2 p3 p4 p5 (.val (.int (p0 &&& (7 : Int32)))) (.val (.ref w)) (.val nv) (.val (.int (p1 &&& (3 : Int32)))) (.val (.ref x5)) (.val (.int (p2 &&& (3 : Int32)))) (.val (.ref tt)) .unset)) rfl) ?_
        refine Goes.go (fun t => XS.iload X20.here hx rfl (hb hby at_220) rfl ) ?_
        refine Goes.go (fun t => XS.iconst X20.here hx rfl (hb hby at_222)) ?_
        show Goes p e below _ (T20.setTop (mkF m 223 (own_L p0 p1 p2 p3 p4 p5 (.val (.int (p0 &&& (7 : Int32)))) (.val (.ref w)) (.val nv) (.val (.int (p1 &&& (3 : Int32)))) (.val (.ref x5)) (.val (.int (p2 &&& (3 : Int32)))) (.val (.ref tt)) .unset) [(.int (1 : Int32)), (.int (p0 &&& (7 : Int32)))]))
        refine Goes.go (fun t => XS.icmpYes X20.here hx rfl (pc0 := 223) (pc' := 232) rfl (hb hby at_223) rfl (Jvm.Free.XT.ii_ne_t hn1) (by decide) (by decide)) ?_
        show Goes p e below _ (T20.setTop (mkF m 232 (own_L p0 p1 p2 p3 p4 p5 (.val (.int (p0 &&& (7 : Int32)))) (.val (.ref w)) (.val nv) (.val (.int (p1 &&& (3 : Int32)))) (.val (.ref x5)) (.val (.int (p2 &&& (3 : Int32)))) (.val (.ref tt)) .unset) []))
        refine Goes.go (fun t => XS.iload X20.here hx rfl (hb hby at_232) rfl ) ?_
        refine Goes.go (fun t => XS.bipush X20.here hx rfl (hb hby at_234)) ?_
        show Goes p e below _ (T20.setTop (mkF m 236 (own_L p0 p1 p2 p3 p4 p5 (.val (.int (p0 &&& (7 : Int32)))) (.val (.ref w)) (.val nv) (.val (.int (p1 &&& (3 : Int32)))) (.val (.ref x5)) (.val (.int (p2 &&& (3 : Int32)))) (.val (.ref tt)) .unset) [(.int (7 : Int32)), (.int (p0 &&& (7 : Int32)))]))
        refine Goes.go (fun t => XS.icmpYes X20.here hx rfl (pc0 := 236) (pc' := 259) rfl (hb hby at_236) rfl (Jvm.Free.XT.ii_ne_t hn7) (by decide) (by decide)) ?_
        show Goes p e below _ (T20.setTop (mkF m 259 (own_L p0 p1 p2 p3 p4 p5 (.val (.int (p0 &&& (7 : Int32)))) (.val (.ref w)) (.val nv) (.val (.int (p1 &&& (3 : Int32)))) (.val (.ref x5)) (.val (.int (p2 &&& (3 : Int32)))) (.val (.ref tt)) .unset) []))
        refine Goes.go (fun t => XS.iconst X20.here hx rfl (hb hby at_259)) ?_
        refine Goes.go (fun t => XS.istore X20.here hx rfl (hb hby at_260) rfl (l' := (own_L p0 p1 p2 p3 p4 p5 (.val (.int (p0 &&& (7 : Int32)))) (.val (.ref w)) (.val nv) (.val (.int (p1 &&& (3 : Int32)))) (.val (.ref x5)) (.val (.int (p2 &&& (3 : Int32)))) (.val (.ref tt)) (.val (.int (0 : Int32))))) rfl) ?_
        refine Goes.go (fun t => XS.aload X20.here hx rfl (hb hby at_262) rfl rfl ) ?_
        show Goes p e below _ (T20.setTop (mkF m 264 (own_L p0 p1 p2 p3 p4 p5 (.val (.int (p0 &&& (7 : Int32)))) (.val (.ref w)) (.val nv) (.val (.int (p1 &&& (3 : Int32)))) (.val (.ref x5)) (.val (.int (p2 &&& (3 : Int32)))) (.val (.ref tt)) (.val (.int (0 : Int32)))) [(.ref tt)]))
        obtain ⟨cq21, kq21, q21a, q21b, q21c⟩ := isOf hZ rfl E_tt_20
        obtain ⟨_, _, ⟨T21, L21, k21, n21⟩, -, X21, ⟨Lc21, hQ21, l21, y21, z21⟩, st21⟩ := X20.virtualBack hx (y := (⟨oNT, "listedByTree", "()Z"⟩ : MethodName)) (z := (⟨oNT, "listedByTree", "()Z"⟩ : MethodName)) hown (mvT hZ (own_h hw 76 rfl)) (mvT hZ (own_h hw 77 rfl)) (notFace_of_selects (args := #[]) (mvT hZ (own_h hw 79 rfl))) (mvT hZ (own_h hw 79 rfl)) (mvT hZ (own_h hw 78 rfl)) (by decide) (backOf (W := 0) (rmLB l Z a0 hw [] tt w T20.heap n0 Z20 Fkind20 FelementQuery20) hZ (own_h hw 80 rfl) (own_h hw 50 rfl) (by decide) (by decide)) q21a q21c (g := (mkF m 264 (own_L p0 p1 p2 p3 p4 p5 (.val (.int (p0 &&& (7 : Int32)))) (.val (.ref w)) (.val nv) (.val (.int (p1 &&& (3 : Int32)))) (.val (.ref x5)) (.val (.int (p2 &&& (3 : Int32)))) (.val (.ref tt)) (.val (.int (0 : Int32)))) [(.ref tt)])) rfl (by rw [hml]; rfl) (Steps.refl _) (argsL := []) (rest := []) (lenOf pd0_3 rfl) rfl (by show 2 * 0 + _ ≤ _; exact Nat.le_of_eq rfl) (hb hby at_264) (fun _ _ => ⟨rfl, rfl, (by decide : 12 + 0 ≤ _), (by decide : 52 + 0 ≤ _)⟩)
        dsimp only [Pt.U, Pt.locs, Pt.cells, Pt.slots] at X21 l21 y21 z21 st21 hQ21
        subst l21 y21 z21
        obtain ⟨rfl, N21q, e21q⟩ := hQ21
        have N21 := Fr.app N20 N21q
        refine Goes.via st21 ?_
        show Goes p e below _ (T21.setTop (mkF m 267 (own_L p0 p1 p2 p3 p4 p5 (.val (.int (p0 &&& (7 : Int32)))) (.val (.ref w)) (.val nv) (.val (.int (p1 &&& (3 : Int32)))) (.val (.ref x5)) (.val (.int (p2 &&& (3 : Int32)))) (.val (.ref tt)) (.val (.int (0 : Int32)))) [(.int (0 : Int32))]))
        refine Goes.go (fun t => XS.iload X21.here hx rfl (hb hby at_267) rfl ) ?_
        show Goes p e below _ (T21.setTop (mkF m 269 (own_L p0 p1 p2 p3 p4 p5 (.val (.int (p0 &&& (7 : Int32)))) (.val (.ref w)) (.val nv) (.val (.int (p1 &&& (3 : Int32)))) (.val (.ref x5)) (.val (.int (p2 &&& (3 : Int32)))) (.val (.ref tt)) (.val (.int (0 : Int32)))) [(.int (0 : Int32)), (.int (0 : Int32))]))
        refine Goes.go (fun t => XS.icmpNo X21.here hx rfl (hb hby at_269) rfl (Jvm.Free.XT.ii_ne_f (by decide))) ?_
        show Goes p e below _ (T21.setTop (mkF m 272 (own_L p0 p1 p2 p3 p4 p5 (.val (.int (p0 &&& (7 : Int32)))) (.val (.ref w)) (.val nv) (.val (.int (p1 &&& (3 : Int32)))) (.val (.ref x5)) (.val (.int (p2 &&& (3 : Int32)))) (.val (.ref tt)) (.val (.int (0 : Int32)))) []))
        refine Goes.go (fun t => XS.iconst X21.here hx rfl (hb hby at_272)) ?_
        refine Goes.go (fun t => XS.goto X21.here hx rfl (pc0 := 273) (pc' := 277) rfl (hb hby at_273) (by decide) (by decide)) ?_
        show Goes p e below _ (T21.setTop (mkF m 277 (own_L p0 p1 p2 p3 p4 p5 (.val (.int (p0 &&& (7 : Int32)))) (.val (.ref w)) (.val nv) (.val (.int (p1 &&& (3 : Int32)))) (.val (.ref x5)) (.val (.int (p2 &&& (3 : Int32)))) (.val (.ref tt)) (.val (.int (0 : Int32)))) [(.int (1 : Int32))]))
        exact Goes.outW X21 hS (by rw [e21q]; exact hk) (fun h => by rw [Bd.returns] at h; cases h) Bd.notSynchronized (fun fs hr => retN X21 hx (t := .boolean) Bd.returns (by simp) (hb hby at_277) hr) ⟨rfl, N21⟩ (by rw [hh, e21q]; exact CR20.trans (CHv.at X21 hZ (own_ew hw) CH20)) (by decide) (by decide)
    · refine Goes.go (fun t => XS.icmpYes X.here hx rfl (pc0 := 125) (pc' := 159) rfl (hb hby at_125) rfl (Jvm.Free.XT.ii_ne_t hc125) (by decide) (by decide)) ?_
      show Goes p e below _ (T.setTop (mkF m 159 (own_L p0 p1 p2 p3 p4 p5 (.val (.int (p0 &&& (7 : Int32)))) (.val kv) (.val nv) (.val (.int (p1 &&& (3 : Int32)))) (.val .null) (.val (.int (p2 &&& (3 : Int32)))) .unset .unset) []))
      refine Goes.go (fun t => XS.iload X.here hx rfl (hb hby at_159) rfl ) ?_
      refine Goes.go (fun t => XS.iconst X.here hx rfl (hb hby at_161)) ?_
      show Goes p e below _ (T.setTop (mkF m 162 (own_L p0 p1 p2 p3 p4 p5 (.val (.int (p0 &&& (7 : Int32)))) (.val kv) (.val nv) (.val (.int (p1 &&& (3 : Int32)))) (.val .null) (.val (.int (p2 &&& (3 : Int32)))) .unset .unset) [(.int (2 : Int32)), (.int (p2 &&& (3 : Int32)))]))
      by_cases hc162 : (p2 &&& (3 : Int32)) < (2 : Int32)
      · refine Goes.go (fun t => XS.icmpYes X.here hx rfl (pc0 := 162) (pc' := 205) rfl (hb hby at_162) rfl (Jvm.Free.XT.ii_lt_t hc162) (by decide) (by decide)) ?_
        rcases hkv with ⟨hk1, rfl⟩ | ⟨hk7, rfl⟩ | ⟨hn1, hn7, w, rfl, hne⟩
        · show Goes p e below _ (T.setTop (mkF m 205 (own_L p0 p1 p2 p3 p4 p5 (.val (.int (p0 &&& (7 : Int32)))) (.val (.ref w_ELEMENT)) (.val nv) (.val (.int (p1 &&& (3 : Int32)))) (.val .null) (.val (.int (p2 &&& (3 : Int32)))) .unset .unset) []))
          have NS2 := NSv.ext (⟨Nat.le_refl _, fun _ _ q => q⟩ : Ext h h)
          have V2 := V.ext (⟨Nat.le_refl _, fun _ _ q => q⟩ : Ext h h)
          have SE2 := SE.ext (⟨Nat.le_refl _, fun _ _ q => q⟩ : Ext h h)
          have LN2 : own_lnv Z h .null := Or.inl rfl
          obtain ⟨T22, h22, X22, e22, E22, A22, D22, -, st22⟩ := newO X hx hZ hown (own_h hw 48 rfl) (own_h hw 49 rfl) (own_h hw 50 rfl) eT (g := (mkF m 205 (own_L p0 p1 p2 p3 p4 p5 (.val (.int (p0 &&& (7 : Int32)))) (.val (.ref w_ELEMENT)) (.val nv) (.val (.int (p1 &&& (3 : Int32)))) (.val .null) (.val (.int (p2 &&& (3 : Int32)))) .unset .unset) [])) rfl (hb hby at_205) (by decide) (by decide)
          obtain ⟨tt, gq_tt⟩ : ∃ z, z = h.size := ⟨_, rfl⟩
          rw [← gq_tt] at A22 D22 st22
          have g_tt : n0 ≤ tt := Nat.le_trans Zx (Nat.le_of_eq gq_tt.symm)
          have CQ22 := CHr.ext E22 CHx
          have CH22 := CQ22.1
          have CR22 := CRx.trans CQ22
          have hk := Nat.le_trans hk E22.1
          have Z22 : n0 ≤ h22.size := Nat.le_trans Zx E22.1
          have F_kind_tt_22 : Fld Z h22 tt oNT "kind" "Lcom/example/thames/thames/model/NodeKind;" .null := D22 (Or.inr (own_h hw 59 rfl)) (ty := (.object oNK)) (by decide)
          have F_namespaceUri_tt_22 : Fld Z h22 tt oNT "namespaceUri" "Ljava/lang/String;" .null := D22 (Or.inr (own_h hw 61 rfl)) (ty := (.object "java/lang/String")) (by decide)
          have F_localName_tt_22 : Fld Z h22 tt oNT "localName" "Ljava/lang/String;" .null := D22 (Or.inr (own_h hw 63 rfl)) (ty := (.object "java/lang/String")) (by decide)
          have F_type_tt_22 : Fld Z h22 tt oNT "type" "Lcom/example/thames/thames/model/SchemaType;" .null := D22 (Or.inr (own_h hw 65 rfl)) (ty := (.object "com/example/thames/thames/model/SchemaType")) (by decide)
          have F_elementTest_tt_22 : Fld Z h22 tt oNT "elementTest" "Lcom/example/thames/thames/engine/NodeTest;" .null := D22 (Or.inr (own_h hw 67 rfl)) (ty := (.object oNT)) (by decide)
          have F_elementQuery_tt_22 : Fld Z h22 tt oNT "elementQuery" "Lcom/example/thames/thames/model/ElementQuery;" .null := D22 (Or.inr (own_h hw 75 rfl)) (ty := (.object oEQ)) (by decide)
          refine Goes.go st22 ?_
          have gb_tt : h.size ≤ tt := Nat.le_of_eq gq_tt.symm
          show Goes p e below _ (T22.setTop (mkF m 208 (own_L p0 p1 p2 p3 p4 p5 (.val (.int (p0 &&& (7 : Int32)))) (.val (.ref w_ELEMENT)) (.val nv) (.val (.int (p1 &&& (3 : Int32)))) (.val .null) (.val (.int (p2 &&& (3 : Int32)))) .unset .unset) [(.ref tt)]))
          refine Goes.go (fun t => XS.dup X22.here hx rfl (hb hby at_208) rfl rfl) ?_
          refine Goes.go (fun t => XS.aload X22.here hx rfl (hb hby at_209) rfl rfl ) ?_
          refine Goes.go (fun t => XS.aload X22.here hx rfl (hb hby at_211) rfl (by assumption) ) ?_
          refine Goes.go (fun t => XS.aload X22.here hx rfl (hb hby at_213) rfl rfl ) ?_
          show Goes p e below _ (T22.setTop (mkF m 215 (own_L p0 p1 p2 p3 p4 p5 (.val (.int (p0 &&& (7 : Int32)))) (.val (.ref w_ELEMENT)) (.val nv) (.val (.int (p1 &&& (3 : Int32)))) (.val .null) (.val (.int (p2 &&& (3 : Int32)))) .unset .unset) [.null, nv, (.ref w_ELEMENT), (.ref tt), (.ref tt)]))
          obtain ⟨_, _, ⟨T23, L23, k23, n23⟩, -, X23, hS23, hg23, ⟨Lc23, hQ23, l23, y23, z23, CQ23⟩, st23⟩ := X22.specialBackS hx (y := (⟨oNT, "<init>", "(Lcom/example/thames/thames/model/NodeKind;Ljava/lang/String;Ljava/lang/String;)V"⟩ : MethodName)) rfl hown (mvT hZ (own_h hw 51 rfl)) (mvT hZ (own_h hw 52 rfl)) (mvT hZ (own_h hw 53 rfl)) (by decide) (backOfSH (s := s) (vm0 := vm0) (W := 1) (rmTE3 l Z a0 hw [] tt w_ELEMENT nv .null z fm wS wN cS cN h h22 n0 Z22 NS2.isref LN2.isref E22 gb_tt g_tt SE2 A22 F_kind_tt_22 F_namespaceUri_tt_22 F_localName_tt_22 F_type_tt_22 F_elementTest_tt_22 F_elementQuery_tt_22 V2 NS2 LN2) hZ (own_h hw 53 rfl) (own_h hw 50 rfl) (by decide) (by decide) (own_ew hw) CH22) (g := (mkF m 215 (own_L p0 p1 p2 p3 p4 p5 (.val (.int (p0 &&& (7 : Int32)))) (.val (.ref w_ELEMENT)) (.val nv) (.val (.int (p1 &&& (3 : Int32)))) (.val .null) (.val (.int (p2 &&& (3 : Int32)))) .unset .unset) [.null, nv, (.ref w_ELEMENT), (.ref tt), (.ref tt)])) rfl (by rw [hml]; rfl) (Steps.refl _) (a := tt) (argsL := [(.ref w_ELEMENT), nv, .null]) (rest := [(.ref tt)]) (lenOf pd0_2 rfl) rfl (by show 2 * 0 + _ ≤ _; exact Nat.le_of_eq rfl) (hb hby at_215) (fun _ _ => ⟨rfl, e22, (by decide : 9 + 14 ≤ _), (by decide : 46 + 277 ≤ _)⟩)
          dsimp only [Pt.U, Pt.locs, Pt.cells, Pt.slots] at X23 hS23 hg23 l23 y23 z23 st23 hQ23 CQ23
          subst l23 y23 z23
          obtain ⟨rfl, N23q, K23, Fk23, q, Fq23⟩ := hQ23
          have N23 := Fr.app N N23q
          obtain ⟨X23, hS, hZ, hown⟩ := rebS (n1 := T22.heap.size) hS (by rw [e22]; exact hk) X23 hS23 hg23 hZ hown
          have hk : T23.heap.size ≤ T23.heap.size := Nat.le_refl _
          have CH23 := CQ23.1
          have CR23 := CR22.trans CQ23
          refine Goes.via st23 ?_
          have Z23 : n0 ≤ T23.heap.size := Nat.le_trans Z22 K23.1
          have E_tt_23 : Exa Z T23.heap tt oNT := A22.keep K23
          show Goes p e below _ (T23.setTop (mkF m 218 (own_L p0 p1 p2 p3 p4 p5 (.val (.int (p0 &&& (7 : Int32)))) (.val (.ref w_ELEMENT)) (.val nv) (.val (.int (p1 &&& (3 : Int32)))) (.val .null) (.val (.int (p2 &&& (3 : Int32)))) .unset .unset) [(.ref tt)]))
          refine Goes.go (fun t => XS.astore X23.here hx rfl (hb hby at_218) rfl rfl (l' := (own_L p0 p1 p2 p3 p4 p5 (.val (.int (p0 &&& (7 : Int32)))) (.val (.ref w_ELEMENT)) (.val nv) (.val (.int (p1 &&& (3 : Int32)))) (.val .null) (.val (.int (p2 &&& (3 : Int32)))) (.val (.ref tt)) .unset)) rfl) ?_
          refine Goes.go (fun t => XS.iload X23.here hx rfl (hb hby at_220) rfl ) ?_
          refine Goes.go (fun t => XS.iconst X23.here hx rfl (hb hby at_222)) ?_
          show Goes p e below _ (T23.setTop (mkF m 223 (own_L p0 p1 p2 p3 p4 p5 (.val (.int (p0 &&& (7 : Int32)))) (.val (.ref w_ELEMENT)) (.val nv) (.val (.int (p1 &&& (3 : Int32)))) (.val .null) (.val (.int (p2 &&& (3 : Int32)))) (.val (.ref tt)) .unset) [(.int (1 : Int32)), (.int (p0 &&& (7 : Int32)))]))
          refine Goes.go (fun t => XS.icmpNo X23.here hx rfl (hb hby at_223) rfl (Jvm.Free.XT.ii_ne_f hk1)) ?_
          show Goes p e below _ (T23.setTop (mkF m 226 (own_L p0 p1 p2 p3 p4 p5 (.val (.int (p0 &&& (7 : Int32)))) (.val (.ref w_ELEMENT)) (.val nv) (.val (.int (p1 &&& (3 : Int32)))) (.val .null) (.val (.int (p2 &&& (3 : Int32)))) (.val (.ref tt)) .unset) []))
          refine Goes.go (fun t => XS.iconst X23.here hx rfl (hb hby at_226)) ?_
          refine Goes.go (fun t => XS.istore X23.here hx rfl (hb hby at_227) rfl (l' := (own_L p0 p1 p2 p3 p4 p5 (.val (.int (p0 &&& (7 : Int32)))) (.val (.ref w_ELEMENT)) (.val nv) (.val (.int (p1 &&& (3 : Int32)))) (.val .null) (.val (.int (p2 &&& (3 : Int32)))) (.val (.ref tt)) (.val (.int (1 : Int32))))) rfl) ?_
          refine Goes.go (fun t => XS.goto X23.here hx rfl (pc0 := 229) (pc' := 262) rfl (hb hby at_229) (by decide) (by decide)) ?_
          refine Goes.go (fun t => XS.aload X23.here hx rfl (hb hby at_262) rfl rfl ) ?_
          show Goes p e below _ (T23.setTop (mkF m 264 (own_L p0 p1 p2 p3 p4 p5 (.val (.int (p0 &&& (7 : Int32)))) (.val (.ref w_ELEMENT)) (.val nv) (.val (.int (p1 &&& (3 : Int32)))) (.val .null) (.val (.int (p2 &&& (3 : Int32)))) (.val (.ref tt)) (.val (.int (1 : Int32)))) [(.ref tt)]))
          obtain ⟨cq24, kq24, q24a, q24b, q24c⟩ := isOf hZ rfl E_tt_23
          obtain ⟨_, _, ⟨T24, L24, k24, n24⟩, -, X24, ⟨Lc24, hQ24, l24, y24, z24⟩, st24⟩ := X23.virtualBack hx (y := (⟨oNT, "listedByTree", "()Z"⟩ : MethodName)) (z := (⟨oNT, "listedByTree", "()Z"⟩ : MethodName)) hown (mvT hZ (own_h hw 76 rfl)) (mvT hZ (own_h hw 77 rfl)) (notFace_of_selects (args := #[]) (mvT hZ (own_h hw 79 rfl))) (mvT hZ (own_h hw 79 rfl)) (mvT hZ (own_h hw 78 rfl)) (by decide) (backOf (W := 0) (rmLA l Z a0 hw [] tt w_ELEMENT q T23.heap n0 Z23 Fk23 Fq23) hZ (own_h hw 80 rfl) (own_h hw 50 rfl) (by decide) (by decide)) q24a q24c (g := (mkF m 264 (own_L p0 p1 p2 p3 p4 p5 (.val (.int (p0 &&& (7 : Int32)))) (.val (.ref w_ELEMENT)) (.val nv) (.val (.int (p1 &&& (3 : Int32)))) (.val .null) (.val (.int (p2 &&& (3 : Int32)))) (.val (.ref tt)) (.val (.int (1 : Int32)))) [(.ref tt)])) rfl (by rw [hml]; rfl) (Steps.refl _) (argsL := []) (rest := []) (lenOf pd0_3 rfl) rfl (by show 2 * 0 + _ ≤ _; exact Nat.le_of_eq rfl) (hb hby at_264) (fun _ _ => ⟨rfl, rfl, (by decide : 23 + 0 ≤ _), (by decide : 323 + 0 ≤ _)⟩)
          dsimp only [Pt.U, Pt.locs, Pt.cells, Pt.slots] at X24 l24 y24 z24 st24 hQ24
          subst l24 y24 z24
          obtain ⟨rfl, N24q, e24q⟩ := hQ24
          have N24 := Fr.app N23 N24q
          refine Goes.via st24 ?_
          show Goes p e below _ (T24.setTop (mkF m 267 (own_L p0 p1 p2 p3 p4 p5 (.val (.int (p0 &&& (7 : Int32)))) (.val (.ref w_ELEMENT)) (.val nv) (.val (.int (p1 &&& (3 : Int32)))) (.val .null) (.val (.int (p2 &&& (3 : Int32)))) (.val (.ref tt)) (.val (.int (1 : Int32)))) [(.int (1 : Int32))]))
          refine Goes.go (fun t => XS.iload X24.here hx rfl (hb hby at_267) rfl ) ?_
          show Goes p e below _ (T24.setTop (mkF m 269 (own_L p0 p1 p2 p3 p4 p5 (.val (.int (p0 &&& (7 : Int32)))) (.val (.ref w_ELEMENT)) (.val nv) (.val (.int (p1 &&& (3 : Int32)))) (.val .null) (.val (.int (p2 &&& (3 : Int32)))) (.val (.ref tt)) (.val (.int (1 : Int32)))) [(.int (1 : Int32)), (.int (1 : Int32))]))
          refine Goes.go (fun t => XS.icmpNo X24.here hx rfl (hb hby at_269) rfl (Jvm.Free.XT.ii_ne_f (by decide))) ?_
          show Goes p e below _ (T24.setTop (mkF m 272 (own_L p0 p1 p2 p3 p4 p5 (.val (.int (p0 &&& (7 : Int32)))) (.val (.ref w_ELEMENT)) (.val nv) (.val (.int (p1 &&& (3 : Int32)))) (.val .null) (.val (.int (p2 &&& (3 : Int32)))) (.val (.ref tt)) (.val (.int (1 : Int32)))) []))
          refine Goes.go (fun t => XS.iconst X24.here hx rfl (hb hby at_272)) ?_
          refine Goes.go (fun t => XS.goto X24.here hx rfl (pc0 := 273) (pc' := 277) rfl (hb hby at_273) (by decide) (by decide)) ?_
          show Goes p e below _ (T24.setTop (mkF m 277 (own_L p0 p1 p2 p3 p4 p5 (.val (.int (p0 &&& (7 : Int32)))) (.val (.ref w_ELEMENT)) (.val nv) (.val (.int (p1 &&& (3 : Int32)))) (.val .null) (.val (.int (p2 &&& (3 : Int32)))) (.val (.ref tt)) (.val (.int (1 : Int32)))) [(.int (1 : Int32))]))
          exact Goes.outW X24 hS (by rw [e24q]; exact hk) (fun h => by rw [Bd.returns] at h; cases h) Bd.notSynchronized (fun fs hr => retN X24 hx (t := .boolean) Bd.returns (by simp) (hb hby at_277) hr) ⟨rfl, N24⟩ (by rw [hh, e24q]; exact CR23.trans (CHv.at X24 hZ (own_ew hw) CH23)) (by decide) (by decide)
        · rcases hsel with ⟨rfl, hsz⟩ | ⟨xn, rfl, hsz⟩
          · show Goes p e below _ (T.setTop (mkF m 205 (own_L p0 p1 p2 p3 p4 p5 (.val (.int (p0 &&& (7 : Int32)))) (.val .null) (.val .null) (.val (.int (p1 &&& (3 : Int32)))) (.val .null) (.val (.int (p2 &&& (3 : Int32)))) .unset .unset) []))
            have NS2 := NSv.ext (⟨Nat.le_refl _, fun _ _ q => q⟩ : Ext h h)
            have V2 := V.ext (⟨Nat.le_refl _, fun _ _ q => q⟩ : Ext h h)
            have SE2 := SE.ext (⟨Nat.le_refl _, fun _ _ q => q⟩ : Ext h h)
            have LN2 : own_lnv Z h .null := Or.inl rfl
            obtain ⟨T25, h25, X25, e25, E25, A25, D25, -, st25⟩ := newO X hx hZ hown (own_h hw 48 rfl) (own_h hw 49 rfl) (own_h hw 50 rfl) eT (g := (mkF m 205 (own_L p0 p1 p2 p3 p4 p5 (.val (.int (p0 &&& (7 : Int32)))) (.val .null) (.val .null) (.val (.int (p1 &&& (3 : Int32)))) (.val .null) (.val (.int (p2 &&& (3 : Int32)))) .unset .unset) [])) rfl (hb hby at_205) (by decide) (by decide)
            obtain ⟨tt, gq_tt⟩ : ∃ z, z = h.size := ⟨_, rfl⟩
            rw [← gq_tt] at A25 D25 st25
            have g_tt : n0 ≤ tt := Nat.le_trans Zx (Nat.le_of_eq gq_tt.symm)
            have CQ25 := CHr.ext E25 CHx
            have CH25 := CQ25.1
            have CR25 := CRx.trans CQ25
            have hk := Nat.le_trans hk E25.1
            have Z25 : n0 ≤ h25.size := Nat.le_trans Zx E25.1
            have F_kind_tt_25 : Fld Z h25 tt oNT "kind" "Lcom/example/thames/thames/model/NodeKind;" .null := D25 (Or.inr (own_h hw 59 rfl)) (ty := (.object oNK)) (by decide)
            have F_namespaceUri_tt_25 : Fld Z h25 tt oNT "namespaceUri" "Ljava/lang/String;" .null := D25 (Or.inr (own_h hw 61 rfl)) (ty := (.object "java/lang/String")) (by decide)
            have F_localName_tt_25 : Fld Z h25 tt oNT "localName" "Ljava/lang/String;" .null := D25 (Or.inr (own_h hw 63 rfl)) (ty := (.object "java/lang/String")) (by decide)
            have F_type_tt_25 : Fld Z h25 tt oNT "type" "Lcom/example/thames/thames/model/SchemaType;" .null := D25 (Or.inr (own_h hw 65 rfl)) (ty := (.object "com/example/thames/thames/model/SchemaType")) (by decide)
            have F_elementTest_tt_25 : Fld Z h25 tt oNT "elementTest" "Lcom/example/thames/thames/engine/NodeTest;" .null := D25 (Or.inr (own_h hw 67 rfl)) (ty := (.object oNT)) (by decide)
            have F_elementQuery_tt_25 : Fld Z h25 tt oNT "elementQuery" "Lcom/example/thames/thames/model/ElementQuery;" .null := D25 (Or.inr (own_h hw 75 rfl)) (ty := (.object oEQ)) (by decide)
            refine Goes.go st25 ?_
            have gb_tt : h.size ≤ tt := Nat.le_of_eq gq_tt.symm
            show Goes p e below _ (T25.setTop (mkF m 208 (own_L p0 p1 p2 p3 p4 p5 (.val (.int (p0 &&& (7 : Int32)))) (.val .null) (.val .null) (.val (.int (p1 &&& (3 : Int32)))) (.val .null) (.val (.int (p2 &&& (3 : Int32)))) .unset .unset) [(.ref tt)]))
            refine Goes.go (fun t => XS.dup X25.here hx rfl (hb hby at_208) rfl rfl) ?_
            refine Goes.go (fun t => XS.aload X25.here hx rfl (hb hby at_209) rfl rfl ) ?_
            refine Goes.go (fun t => XS.aload X25.here hx rfl (hb hby at_211) rfl rfl ) ?_
            refine Goes.go (fun t => XS.aload X25.here hx rfl (hb hby at_213) rfl rfl ) ?_
            show Goes p e below _ (T25.setTop (mkF m 215 (own_L p0 p1 p2 p3 p4 p5 (.val (.int (p0 &&& (7 : Int32)))) (.val .null) (.val .null) (.val (.int (p1 &&& (3 : Int32)))) (.val .null) (.val (.int (p2 &&& (3 : Int32)))) .unset .unset) [.null, .null, .null, (.ref tt), (.ref tt)]))
            obtain ⟨_, _, ⟨T26, L26, k26, n26⟩, -, X26, ⟨Lc26, hQ26, l26, y26, z26⟩, st26⟩ := X25.specialBack hx (y := (⟨oNT, "<init>", "(Lcom/example/thames/thames/model/NodeKind;Ljava/lang/String;Ljava/lang/String;)V"⟩ : MethodName)) rfl hown (mvT hZ (own_h hw 51 rfl)) (mvT hZ (own_h hw 52 rfl)) (mvT hZ (own_h hw 53 rfl)) (by decide) (backOf (W := 1) (rmTN3 l Z a0 hw [] tt .null .null w_ELEMENT h h25 n0 Z25 NS2.isref LN2.isref E25 gb_tt g_tt SE2 A25 F_kind_tt_25 F_namespaceUri_tt_25 F_localName_tt_25 F_type_tt_25 F_elementTest_tt_25 F_elementQuery_tt_25) hZ (own_h hw 53 rfl) (own_h hw 50 rfl) (by decide) (by decide)) (g := (mkF m 215 (own_L p0 p1 p2 p3 p4 p5 (.val (.int (p0 &&& (7 : Int32)))) (.val .null) (.val .null) (.val (.int (p1 &&& (3 : Int32)))) (.val .null) (.val (.int (p2 &&& (3 : Int32)))) .unset .unset) [.null, .null, .null, (.ref tt), (.ref tt)])) rfl (by rw [hml]; rfl) (Steps.refl _) (a := tt) (argsL := [.null, .null, .null]) (rest := [(.ref tt)]) (lenOf pd0_2 rfl) rfl (by show 2 * 0 + _ ≤ _; exact Nat.le_of_eq rfl) (hb hby at_215) (fun _ _ => ⟨rfl, e25, (by decide : 9 + 0 ≤ _), (by decide : 46 + 0 ≤ _)⟩)
            dsimp only [Pt.U, Pt.locs, Pt.cells, Pt.slots] at X26 l26 y26 z26 st26 hQ26
            subst l26 y26 z26
            obtain ⟨rfl, N26q, K26, Fkind26, FnamespaceUri26, FlocalName26, Ftype26, FelementTest26, FelementQuery26⟩ := hQ26
            have N26 := Fr.app N N26q
            refine Goes.via st26 ?_
            have CQ26 := CHr.keep K26 (sfS (Safe.exa hZ.alike A25 (by decide) (by decide)) sf0) CH25
            have CH26 := CQ26.1
            have CR26 := CR25.trans CQ26
            have hk := Nat.le_trans hk K26.1
            have Z26 : n0 ≤ T26.heap.size := Nat.le_trans Z25 K26.1
            have E_tt_26 : Exa Z T26.heap tt oNT := A25.keep K26
            show Goes p e below _ (T26.setTop (mkF m 218 (own_L p0 p1 p2 p3 p4 p5 (.val (.int (p0 &&& (7 : Int32)))) (.val .null) (.val .null) (.val (.int (p1 &&& (3 : Int32)))) (.val .null) (.val (.int (p2 &&& (3 : Int32)))) .unset .unset) [(.ref tt)]))
            refine Goes.go (fun t => XS.astore X26.here hx rfl (hb hby at_218) rfl rfl (l' := (own_L p0 p1 p2 p3 p4 p5 (.val (.int (p0 &&& (7 : Int32)))) (.val .null) (.val .null) (.val (.int (p1 &&& (3 : Int32)))) (.val .null) (.val (.int (p2 &&& (3 : Int32)))) (.val (.ref tt)) .unset)) rfl) ?_
            refine Goes.go (fun t => XS.iload X26.here hx rfl (hb hby at_220) rfl ) ?_
            refine Goes.go (fun t => XS.iconst X26.here hx rfl (hb hby at_222)) ?_
            show Goes p e below _ (T26.setTop (mkF m 223 (own_L p0 p1 p2 p3 p4 p5 (.val (.int (p0 &&& (7 : Int32)))) (.val .null) (.val .null) (.val (.int (p1 &&& (3 : Int32)))) (.val .null) (.val (.int (p2 &&& (3 : Int32)))) (.val (.ref tt)) .unset) [(.int (1 : Int32)), (.int (p0 &&& (7 : Int32)))]))
            refine Goes.go (fun t => XS.icmpYes X26.here hx rfl (pc0 := 223) (pc' := 232) rfl (hb hby at_223) rfl (Jvm.Free.XT.ii_ne_t (by rw [hk7]; decide)) (by decide) (by decide)) ?_
            show Goes p e below _ (T26.setTop (mkF m 232 (own_L p0 p1 p2 p3 p4 p5 (.val (.int (p0 &&& (7 : Int32)))) (.val .null) (.val .null) (.val (.int (p1 &&& (3 : Int32)))) (.val .null) (.val (.int (p2 &&& (3 : Int32)))) (.val (.ref tt)) .unset) []))
            refine Goes.go (fun t => XS.iload X26.here hx rfl (hb hby at_232) rfl ) ?_
            refine Goes.go (fun t => XS.bipush X26.here hx rfl (hb hby at_234)) ?_
            show Goes p e below _ (T26.setTop (mkF m 236 (own_L p0 p1 p2 p3 p4 p5 (.val (.int (p0 &&& (7 : Int32)))) (.val .null) (.val .null) (.val (.int (p1 &&& (3 : Int32)))) (.val .null) (.val (.int (p2 &&& (3 : Int32)))) (.val (.ref tt)) .unset) [(.int (7 : Int32)), (.int (p0 &&& (7 : Int32)))]))
            refine Goes.go (fun t => XS.icmpNo X26.here hx rfl (hb hby at_236) rfl (Jvm.Free.XT.ii_ne_f hk7)) ?_
            show Goes p e below _ (T26.setTop (mkF m 239 (own_L p0 p1 p2 p3 p4 p5 (.val (.int (p0 &&& (7 : Int32)))) (.val .null) (.val .null) (.val (.int (p1 &&& (3 : Int32)))) (.val .null) (.val (.int (p2 &&& (3 : Int32)))) (.val (.ref tt)) .unset) []))
            refine Goes.go (fun t => XS.iload X26.here hx rfl (hb hby at_239) rfl ) ?_
            show Goes p e below _ (T26.setTop (mkF m 241 (own_L p0 p1 p2 p3 p4 p5 (.val (.int (p0 &&& (7 : Int32)))) (.val .null) (.val .null) (.val (.int (p1 &&& (3 : Int32)))) (.val .null) (.val (.int (p2 &&& (3 : Int32)))) (.val (.ref tt)) .unset) [(.int (p1 &&& (3 : Int32)))]))
            refine Goes.go (fun t => XS.ifNo X26.here hx rfl (hb hby at_241) rfl (Jvm.Free.XT.i0_ne_f hsz)) ?_
            show Goes p e below _ (T26.setTop (mkF m 244 (own_L p0 p1 p2 p3 p4 p5 (.val (.int (p0 &&& (7 : Int32)))) (.val .null) (.val .null) (.val (.int (p1 &&& (3 : Int32)))) (.val .null) (.val (.int (p2 &&& (3 : Int32)))) (.val (.ref tt)) .unset) []))
            refine Goes.go (fun t => XS.iload X26.here hx rfl (hb hby at_244) rfl ) ?_
            show Goes p e below _ (T26.setTop (mkF m 246 (own_L p0 p1 p2 p3 p4 p5 (.val (.int (p0 &&& (7 : Int32)))) (.val .null) (.val .null) (.val (.int (p1 &&& (3 : Int32)))) (.val .null) (.val (.int (p2 &&& (3 : Int32)))) (.val (.ref tt)) .unset) [(.int (p2 &&& (3 : Int32)))]))
            refine Goes.go (fun t => XS.ifNo X26.here hx rfl (hb hby at_246) rfl (Jvm.Free.XT.i0_ne_f (own_z2 hc125 hc162))) ?_
            show Goes p e below _ (T26.setTop (mkF m 249 (own_L p0 p1 p2 p3 p4 p5 (.val (.int (p0 &&& (7 : Int32)))) (.val .null) (.val .null) (.val (.int (p1 &&& (3 : Int32)))) (.val .null) (.val (.int (p2 &&& (3 : Int32)))) (.val (.ref tt)) .unset) []))
            refine Goes.go (fun t => XS.iconst X26.here hx rfl (hb hby at_249)) ?_
            refine Goes.go (fun t => XS.goto X26.here hx rfl (pc0 := 250) (pc' := 254) rfl (hb hby at_250) (by decide) (by decide)) ?_
            refine Goes.go (fun t => XS.istore X26.here hx rfl (hb hby at_254) rfl (l' := (own_L p0 p1 p2 p3 p4 p5 (.val (.int (p0 &&& (7 : Int32)))) (.val .null) (.val .null) (.val (.int (p1 &&& (3 : Int32)))) (.val .null) (.val (.int (p2 &&& (3 : Int32)))) (.val (.ref tt)) (.val (.int (1 : Int32))))) rfl) ?_
            refine Goes.go (fun t => XS.goto X26.here hx rfl (pc0 := 256) (pc' := 262) rfl (hb hby at_256) (by decide) (by decide)) ?_
            show Goes p e below _ (T26.setTop (mkF m 262 (own_L p0 p1 p2 p3 p4 p5 (.val (.int (p0 &&& (7 : Int32)))) (.val .null) (.val .null) (.val (.int (p1 &&& (3 : Int32)))) (.val .null) (.val (.int (p2 &&& (3 : Int32)))) (.val (.ref tt)) (.val (.int (1 : Int32)))) []))
            refine Goes.go (fun t => XS.aload X26.here hx rfl (hb hby at_262) rfl rfl ) ?_
            show Goes p e below _ (T26.setTop (mkF m 264 (own_L p0 p1 p2 p3 p4 p5 (.val (.int (p0 &&& (7 : Int32)))) (.val .null) (.val .null) (.val (.int (p1 &&& (3 : Int32)))) (.val .null) (.val (.int (p2 &&& (3 : Int32)))) (.val (.ref tt)) (.val (.int (1 : Int32)))) [(.ref tt)]))
            obtain ⟨cq27, kq27, q27a, q27b, q27c⟩ := isOf hZ rfl E_tt_26
            obtain ⟨_, _, ⟨T27, L27, k27, n27⟩, -, X27, ⟨Lc27, hQ27, l27, y27, z27⟩, st27⟩ := X26.virtualBack hx (y := (⟨oNT, "listedByTree", "()Z"⟩ : MethodName)) (z := (⟨oNT, "listedByTree", "()Z"⟩ : MethodName)) hown (mvT hZ (own_h hw 76 rfl)) (mvT hZ (own_h hw 77 rfl)) (notFace_of_selects (args := #[]) (mvT hZ (own_h hw 79 rfl))) (mvT hZ (own_h hw 79 rfl)) (mvT hZ (own_h hw 78 rfl)) (by decide) (backOf (W := 0) (rmLC l Z a0 hw [] tt T26.heap n0 Z26 Fkind26 FnamespaceUri26 FlocalName26 Ftype26 FelementQuery26) hZ (own_h hw 80 rfl) (own_h hw 50 rfl) (by decide) (by decide)) q27a q27c (g := (mkF m 264 (own_L p0 p1 p2 p3 p4 p5 (.val (.int (p0 &&& (7 : Int32)))) (.val .null) (.val .null) (.val (.int (p1 &&& (3 : Int32)))) (.val .null) (.val (.int (p2 &&& (3 : Int32)))) (.val (.ref tt)) (.val (.int (1 : Int32)))) [(.ref tt)])) rfl (by rw [hml]; rfl) (Steps.refl _) (argsL := []) (rest := []) (lenOf pd0_3 rfl) rfl (by show 2 * 0 + _ ≤ _; exact Nat.le_of_eq rfl) (hb hby at_264) (fun _ _ => ⟨rfl, rfl, (by decide : 9 + 0 ≤ _), (by decide : 46 + 0 ≤ _)⟩)
            dsimp only [Pt.U, Pt.locs, Pt.cells, Pt.slots] at X27 l27 y27 z27 st27 hQ27
            subst l27 y27 z27
            obtain ⟨rfl, N27q, e27q⟩ := hQ27
            have N27 := Fr.app N26 N27q
            refine Goes.via st27 ?_
            show Goes p e below _ (T27.setTop (mkF m 267 (own_L p0 p1 p2 p3 p4 p5 (.val (.int (p0 &&& (7 : Int32)))) (.val .null) (.val .null) (.val (.int (p1 &&& (3 : Int32)))) (.val .null) (.val (.int (p2 &&& (3 : Int32)))) (.val (.ref tt)) (.val (.int (1 : Int32)))) [(.int (1 : Int32))]))
            refine Goes.go (fun t => XS.iload X27.here hx rfl (hb hby at_267) rfl ) ?_
            show Goes p e below _ (T27.setTop (mkF m 269 (own_L p0 p1 p2 p3 p4 p5 (.val (.int (p0 &&& (7 : Int32)))) (.val .null) (.val .null) (.val (.int (p1 &&& (3 : Int32)))) (.val .null) (.val (.int (p2 &&& (3 : Int32)))) (.val (.ref tt)) (.val (.int (1 : Int32)))) [(.int (1 : Int32)), (.int (1 : Int32))]))
            refine Goes.go (fun t => XS.icmpNo X27.here hx rfl (hb hby at_269) rfl (Jvm.Free.XT.ii_ne_f (by decide))) ?_
            show Goes p e below _ (T27.setTop (mkF m 272 (own_L p0 p1 p2 p3 p4 p5 (.val (.int (p0 &&& (7 : Int32)))) (.val .null) (.val .null) (.val (.int (p1 &&& (3 : Int32)))) (.val .null) (.val (.int (p2 &&& (3 : Int32)))) (.val (.ref tt)) (.val (.int (1 : Int32)))) []))
            refine Goes.go (fun t => XS.iconst X27.here hx rfl (hb hby at_272)) ?_
            refine Goes.go (fun t => XS.goto X27.here hx rfl (pc0 := 273) (pc' := 277) rfl (hb hby at_273) (by decide) (by decide)) ?_
            show Goes p e below _ (T27.setTop (mkF m 277 (own_L p0 p1 p2 p3 p4 p5 (.val (.int (p0 &&& (7 : Int32)))) (.val .null) (.val .null) (.val (.int (p1 &&& (3 : Int32)))) (.val .null) (.val (.int (p2 &&& (3 : Int32)))) (.val (.ref tt)) (.val (.int (1 : Int32)))) [(.int (1 : Int32))]))
            exact Goes.outW X27 hS (by rw [e27q]; exact hk) (fun h => by rw [Bd.returns] at h; cases h) Bd.notSynchronized (fun fs hr => retN X27 hx (t := .boolean) Bd.returns (by simp) (hb hby at_277) hr) ⟨rfl, N27⟩ (by rw [hh, e27q]; exact CR26.trans (CHv.at X27 hZ (own_ew hw) CH26)) (by decide) (by decide)
          · show Goes p e below _ (T.setTop (mkF m 205 (own_L p0 p1 p2 p3 p4 p5 (.val (.int (p0 &&& (7 : Int32)))) (.val .null) (.val (.ref xn)) (.val (.int (p1 &&& (3 : Int32)))) (.val .null) (.val (.int (p2 &&& (3 : Int32)))) .unset .unset) []))
            have NS2 := NSv.ext (⟨Nat.le_refl _, fun _ _ q => q⟩ : Ext h h)
            have V2 := V.ext (⟨Nat.le_refl _, fun _ _ q => q⟩ : Ext h h)
            have SE2 := SE.ext (⟨Nat.le_refl _, fun _ _ q => q⟩ : Ext h h)
            have LN2 : own_lnv Z h .null := Or.inl rfl
            obtain ⟨T28, h28, X28, e28, E28, A28, D28, -, st28⟩ := newO X hx hZ hown (own_h hw 48 rfl) (own_h hw 49 rfl) (own_h hw 50 rfl) eT (g := (mkF m 205 (own_L p0 p1 p2 p3 p4 p5 (.val (.int (p0 &&& (7 : Int32)))) (.val .null) (.val (.ref xn)) (.val (.int (p1 &&& (3 : Int32)))) (.val .null) (.val (.int (p2 &&& (3 : Int32)))) .unset .unset) [])) rfl (hb hby at_205) (by decide) (by decide)
            obtain ⟨tt, gq_tt⟩ : ∃ z, z = h.size := ⟨_, rfl⟩
            rw [← gq_tt] at A28 D28 st28
            have g_tt : n0 ≤ tt := Nat.le_trans Zx (Nat.le_of_eq gq_tt.symm)
            have CQ28 := CHr.ext E28 CHx
            have CH28 := CQ28.1
            have CR28 := CRx.trans CQ28
            have hk := Nat.le_trans hk E28.1
            have Z28 : n0 ≤ h28.size := Nat.le_trans Zx E28.1
            have F_kind_tt_28 : Fld Z h28 tt oNT "kind" "Lcom/example/thames/thames/model/NodeKind;" .null := D28 (Or.inr (own_h hw 59 rfl)) (ty := (.object oNK)) (by decide)
            have F_namespaceUri_tt_28 : Fld Z h28 tt oNT "namespaceUri" "Ljava/lang/String;" .null := D28 (Or.inr (own_h hw 61 rfl)) (ty := (.object "java/lang/String")) (by decide)
            have F_localName_tt_28 : Fld Z h28 tt oNT "localName" "Ljava/lang/String;" .null := D28 (Or.inr (own_h hw 63 rfl)) (ty := (.object "java/lang/String")) (by decide)
            have F_type_tt_28 : Fld Z h28 tt oNT "type" "Lcom/example/thames/thames/model/SchemaType;" .null := D28 (Or.inr (own_h hw 65 rfl)) (ty := (.object "com/example/thames/thames/model/SchemaType")) (by decide)
            have F_elementTest_tt_28 : Fld Z h28 tt oNT "elementTest" "Lcom/example/thames/thames/engine/NodeTest;" .null := D28 (Or.inr (own_h hw 67 rfl)) (ty := (.object oNT)) (by decide)
            have F_elementQuery_tt_28 : Fld Z h28 tt oNT "elementQuery" "Lcom/example/thames/thames/model/ElementQuery;" .null := D28 (Or.inr (own_h hw 75 rfl)) (ty := (.object oEQ)) (by decide)
            refine Goes.go st28 ?_
            have gb_tt : h.size ≤ tt := Nat.le_of_eq gq_tt.symm
            show Goes p e below _ (T28.setTop (mkF m 208 (own_L p0 p1 p2 p3 p4 p5 (.val (.int (p0 &&& (7 : Int32)))) (.val .null) (.val (.ref xn)) (.val (.int (p1 &&& (3 : Int32)))) (.val .null) (.val (.int (p2 &&& (3 : Int32)))) .unset .unset) [(.ref tt)]))
            refine Goes.go (fun t => XS.dup X28.here hx rfl (hb hby at_208) rfl rfl) ?_
            refine Goes.go (fun t => XS.aload X28.here hx rfl (hb hby at_209) rfl rfl ) ?_
            refine Goes.go (fun t => XS.aload X28.here hx rfl (hb hby at_211) rfl rfl ) ?_
            refine Goes.go (fun t => XS.aload X28.here hx rfl (hb hby at_213) rfl rfl ) ?_
            show Goes p e below _ (T28.setTop (mkF m 215 (own_L p0 p1 p2 p3 p4 p5 (.val (.int (p0 &&& (7 : Int32)))) (.val .null) (.val (.ref xn)) (.val (.int (p1 &&& (3 : Int32)))) (.val .null) (.val (.int (p2 &&& (3 : Int32)))) .unset .unset) [.null, (.ref xn), .null, (.ref tt), (.ref tt)]))
            obtain ⟨_, _, ⟨T29, L29, k29, n29⟩, -, X29, ⟨Lc29, hQ29, l29, y29, z29⟩, st29⟩ := X28.specialBack hx (y := (⟨oNT, "<init>", "(Lcom/example/thames/thames/model/NodeKind;Ljava/lang/String;Ljava/lang/String;)V"⟩ : MethodName)) rfl hown (mvT hZ (own_h hw 51 rfl)) (mvT hZ (own_h hw 52 rfl)) (mvT hZ (own_h hw 53 rfl)) (by decide) (backOf (W := 1) (rmTN3 l Z a0 hw [] tt (.ref xn) .null w_ELEMENT h h28 n0 Z28 NS2.isref LN2.isref E28 gb_tt g_tt SE2 A28 F_kind_tt_28 F_namespaceUri_tt_28 F_localName_tt_28 F_type_tt_28 F_elementTest_tt_28 F_elementQuery_tt_28) hZ (own_h hw 53 rfl) (own_h hw 50 rfl) (by decide) (by decide)) (g := (mkF m 215 (own_L p0 p1 p2 p3 p4 p5 (.val (.int (p0 &&& (7 : Int32)))) (.val .null) (.val (.ref xn)) (.val (.int (p1 &&& (3 : Int32)))) (.val .null) (.val (.int (p2 &&& (3 : Int32)))) .unset .unset) [.null, (.ref xn), .null, (.ref tt), (.ref tt)])) rfl (by rw [hml]; rfl) (Steps.refl _) (a := tt) (argsL := [.null, (.ref xn), .null]) (rest := [(.ref tt)]) (lenOf pd0_2 rfl) rfl (by show 2 * 0 + _ ≤ _; exact Nat.le_of_eq rfl) (hb hby at_215) (fun _ _ => ⟨rfl, e28, (by decide : 9 + 0 ≤ _), (by decide : 46 + 0 ≤ _)⟩)
            dsimp only [Pt.U, Pt.locs, Pt.cells, Pt.slots] at X29 l29 y29 z29 st29 hQ29
            subst l29 y29 z29
            obtain ⟨rfl, N29q, K29, Fkind29, FnamespaceUri29, FlocalName29, Ftype29, FelementTest29, FelementQuery29⟩ := hQ29
            have N29 := Fr.app N N29q
            refine Goes.via st29 ?_
            have CQ29 := CHr.keep K29 (sfS (Safe.exa hZ.alike A28 (by decide) (by decide)) sf0) CH28
            have CH29 := CQ29.1
            have CR29 := CR28.trans CQ29
            have hk := Nat.le_trans hk K29.1
            have Z29 : n0 ≤ T29.heap.size := Nat.le_trans Z28 K29.1
            have E_tt_29 : Exa Z T29.heap tt oNT := A28.keep K29
            show Goes p e below _ (T29.setTop (mkF m 218 (own_L p0 p1 p2 p3 p4 p5 (.val (.int (p0 &&& (7 : Int32)))) (.val .null) (.val (.ref xn)) (.val (.int (p1 &&& (3 : Int32)))) (.val .null) (.val (.int (p2 &&& (3 : Int32)))) .unset .unset) [(.ref tt)]))
            refine Goes.go (fun t => XS.astore X29.here hx rfl (hb hby at_218) rfl rfl (l' := (own_L p0 p1 p2 p3 p4 p5 (.val (.int (p0 &&& (7 : Int32)))) (.val .null) (.val (.ref xn)) (.val (.int (p1 &&& (3 : Int32)))) (.val .null) (.val (.int (p2 &&& (3 : Int32)))) (.val (.ref tt)) .unset)) rfl) ?_
            refine Goes.go (fun t => XS.iload X29.here hx rfl (hb hby at_220) rfl ) ?_
            refine Goes.go (fun t => XS.iconst X29.here hx rfl (hb hby at_222)) ?_
            show Goes p e below _ (T29.setTop (mkF m 223 (own_L p0 p1 p2 p3 p4 p5 (.val (.int (p0 &&& (7 : Int32)))) (.val .null) (.val (.ref xn)) (.val (.int (p1 &&& (3 : Int32)))) (.val .null) (.val (.int (p2 &&& (3 : Int32)))) (.val (.ref tt)) .unset) [(.int (1 : Int32)), (.int (p0 &&& (7 : Int32)))]))
            refine Goes.go (fun t => XS.icmpYes X29.here hx rfl (pc0 := 223) (pc' := 232) rfl (hb hby at_223) rfl (Jvm.Free.XT.ii_ne_t (by rw [hk7]; decide)) (by decide) (by decide)) ?_
            show Goes p e below _ (T29.setTop (mkF m 232 (own_L p0 p1 p2 p3 p4 p5 (.val (.int (p0 &&& (7 : Int32)))) (.val .null) (.val (.ref xn)) (.val (.int (p1 &&& (3 : Int32)))) (.val .null) (.val (.int (p2 &&& (3 : Int32)))) (.val (.ref tt)) .unset) []))
            refine Goes.go (fun t => XS.iload X29.here hx rfl (hb hby at_232) rfl ) ?_
            refine Goes.go (fun t => XS.bipush X29.here hx rfl (hb hby at_234)) ?_
            show Goes p e below _ (T29.setTop (mkF m 236 (own_L p0 p1 p2 p3 p4 p5 (.val (.int (p0 &&& (7 : Int32)))) (.val .null) (.val (.ref xn)) (.val (.int (p1 &&& (3 : Int32)))) (.val .null) (.val (.int (p2 &&& (3 : Int32)))) (.val (.ref tt)) .unset) [(.int (7 : Int32)), (.int (p0 &&& (7 : Int32)))]))
            refine Goes.go (fun t => XS.icmpNo X29.here hx rfl (hb hby at_236) rfl (Jvm.Free.XT.ii_ne_f hk7)) ?_
            show Goes p e below _ (T29.setTop (mkF m 239 (own_L p0 p1 p2 p3 p4 p5 (.val (.int (p0 &&& (7 : Int32)))) (.val .null) (.val (.ref xn)) (.val (.int (p1 &&& (3 : Int32)))) (.val .null) (.val (.int (p2 &&& (3 : Int32)))) (.val (.ref tt)) .unset) []))
            refine Goes.go (fun t => XS.iload X29.here hx rfl (hb hby at_239) rfl ) ?_
            show Goes p e below _ (T29.setTop (mkF m 241 (own_L p0 p1 p2 p3 p4 p5 (.val (.int (p0 &&& (7 : Int32)))) (.val .null) (.val (.ref xn)) (.val (.int (p1 &&& (3 : Int32)))) (.val .null) (.val (.int (p2 &&& (3 : Int32)))) (.val (.ref tt)) .unset) [(.int (p1 &&& (3 : Int32)))]))
            refine Goes.go (fun t => XS.ifYes X29.here hx rfl (pc0 := 241) (pc' := 253) rfl (hb hby at_241) rfl (Jvm.Free.XT.i0_ne_t hsz) (by decide) (by decide)) ?_
            show Goes p e below _ (T29.setTop (mkF m 253 (own_L p0 p1 p2 p3 p4 p5 (.val (.int (p0 &&& (7 : Int32)))) (.val .null) (.val (.ref xn)) (.val (.int (p1 &&& (3 : Int32)))) (.val .null) (.val (.int (p2 &&& (3 : Int32)))) (.val (.ref tt)) .unset) []))
            refine Goes.go (fun t => XS.iconst X29.here hx rfl (hb hby at_253)) ?_
            refine Goes.go (fun t => XS.istore X29.here hx rfl (hb hby at_254) rfl (l' := (own_L p0 p1 p2 p3 p4 p5 (.val (.int (p0 &&& (7 : Int32)))) (.val .null) (.val (.ref xn)) (.val (.int (p1 &&& (3 : Int32)))) (.val .null) (.val (.int (p2 &&& (3 : Int32)))) (.val (.ref tt)) (.val (.int (0 : Int32))))) rfl) ?_
            refine Goes.go (fun t => XS.goto X29.here hx rfl (pc0 := 256) (pc' := 262) rfl (hb hby at_256) (by decide) (by decide)) ?_
            refine Goes.go (fun t => XS.aload X29.here hx rfl (hb hby at_262) rfl rfl ) ?_
            show Goes p e below _ (T29.setTop (mkF m 264 (own_L p0 p1 p2 p3 p4 p5 (.val (.int (p0 &&& (7 : Int32)))) (.val .null) (.val (.ref xn)) (.val (.int (p1 &&& (3 : Int32)))) (.val .null) (.val (.int (p2 &&& (3 : Int32)))) (.val (.ref tt)) (.val (.int (0 : Int32)))) [(.ref tt)]))
            obtain ⟨cq30, kq30, q30a, q30b, q30c⟩ := isOf hZ rfl E_tt_29
            obtain ⟨_, _, ⟨T30, L30, k30, n30⟩, -, X30, ⟨Lc30, hQ30, l30, y30, z30⟩, st30⟩ := X29.virtualBack hx (y := (⟨oNT, "listedByTree", "()Z"⟩ : MethodName)) (z := (⟨oNT, "listedByTree", "()Z"⟩ : MethodName)) hown (mvT hZ (own_h hw 76 rfl)) (mvT hZ (own_h hw 77 rfl)) (notFace_of_selects (args := #[]) (mvT hZ (own_h hw 79 rfl))) (mvT hZ (own_h hw 79 rfl)) (mvT hZ (own_h hw 78 rfl)) (by decide) (backOf (W := 0) (rmLE l Z a0 hw [] tt xn T29.heap n0 Z29 Fkind29 FnamespaceUri29 FelementQuery29) hZ (own_h hw 80 rfl) (own_h hw 50 rfl) (by decide) (by decide)) q30a q30c (g := (mkF m 264 (own_L p0 p1 p2 p3 p4 p5 (.val (.int (p0 &&& (7 : Int32)))) (.val .null) (.val (.ref xn)) (.val (.int (p1 &&& (3 : Int32)))) (.val .null) (.val (.int (p2 &&& (3 : Int32)))) (.val (.ref tt)) (.val (.int (0 : Int32)))) [(.ref tt)])) rfl (by rw [hml]; rfl) (Steps.refl _) (argsL := []) (rest := []) (lenOf pd0_3 rfl) rfl (by show 2 * 0 + _ ≤ _; exact Nat.le_of_eq rfl) (hb hby at_264) (fun _ _ => ⟨rfl, rfl, (by decide : 9 + 0 ≤ _), (by decide : 46 + 0 ≤ _)⟩)
            dsimp only [Pt.U, Pt.locs, Pt.cells, Pt.slots] at X30 l30 y30 z30 st30 hQ30
            subst l30 y30 z30
            obtain ⟨rfl, N30q, e30q⟩ := hQ30
            have N30 := Fr.app N29 N30q
            refine Goes.via st30 ?_
            show Goes p e below _ (T30.setTop (mkF m 267 (own_L p0 p1 p2 p3 p4 p5 (.val (.int (p0 &&& (7 : Int32)))) (.val .null) (.val (.ref xn)) (.val (.int (p1 &&& (3 : Int32)))) (.val .null) (.val (.int (p2 &&& (3 : Int32)))) (.val (.ref tt)) (.val (.int (0 : Int32)))) [(.int (0 : Int32))]))
            refine Goes.go (fun t => XS.iload X30.here hx rfl (hb hby at_267) rfl ) ?_
            show Goes p e below _ (T30.setTop (mkF m 269 (own_L p0 p1 p2 p3 p4 p5 (.val (.int (p0 &&& (7 : Int32)))) (.val .null) (.val (.ref xn)) (.val (.int (p1 &&& (3 : Int32)))) (.val .null) (.val (.int (p2 &&& (3 : Int32)))) (.val (.ref tt)) (.val (.int (0 : Int32)))) [(.int (0 : Int32)), (.int (0 : Int32))]))
            refine Goes.go (fun t => XS.icmpNo X30.here hx rfl (hb hby at_269) rfl (Jvm.Free.XT.ii_ne_f (by decide))) ?_
            show Goes p e below _ (T30.setTop (mkF m 272 (own_L p0 p1 p2 p3 p4 p5 (.val (.int (p0 &&& (7 : Int32)))) (.val .null) (.val (.ref xn)) (.val (.int (p1 &&& (3 : Int32)))) (.val .null) (.val (.int (p2 &&& (3 : Int32)))) (.val (.ref tt)) (.val (.int (0 : Int32)))) []))
            refine Goes.go (fun t => XS.iconst X30.here hx rfl (hb hby at_272)) ?_
            refine Goes.go (fun t => XS.goto X30.here hx rfl (pc0 := 273) (pc' := 277) rfl (hb hby at_273) (by decide) (by decide)) ?_
            show Goes p e below _ (T30.setTop (mkF m 277 (own_L p0 p1 p2 p3 p4 p5 (.val (.int (p0 &&& (7 : Int32)))) (.val .null) (.val (.ref xn)) (.val (.int (p1 &&& (3 : Int32)))) (.val .null) (.val (.int (p2 &&& (3 : Int32)))) (.val (.ref tt)) (.val (.int (0 : Int32)))) [(.int (1 : Int32))]))
            exact Goes.outW X30 hS (by rw [e30q]; exact hk) (fun h => by rw [Bd.returns] at h; cases h) Bd.notSynchronized (fun fs hr => retN X30 hx (t := .boolean) Bd.returns (by simp) (hb hby at_277) hr) ⟨rfl, N30⟩ (by rw [hh, e30q]; exact CR29.trans (CHv.at X30 hZ (own_ew hw) CH29)) (by decide) (by decide)
        · show Goes p e below _ (T.setTop (mkF m 205 (own_L p0 p1 p2 p3 p4 p5 (.val (.int (p0 &&& (7 : Int32)))) (.val (.ref w)) (.val nv) (.val (.int (p1 &&& (3 : Int32)))) (.val .null) (.val (.int (p2 &&& (3 : Int32)))) .unset .unset) []))
          have NS2 := NSv.ext (⟨Nat.le_refl _, fun _ _ q => q⟩ : Ext h h)
          have V2 := V.ext (⟨Nat.le_refl _, fun _ _ q => q⟩ : Ext h h)
          have SE2 := SE.ext (⟨Nat.le_refl _, fun _ _ q => q⟩ : Ext h h)
          have LN2 : own_lnv Z h .null := Or.inl rfl
          obtain ⟨T31, h31, X31, e31, E31, A31, D31, -, st31⟩ := newO X hx hZ hown (own_h hw 48 rfl) (own_h hw 49 rfl) (own_h hw 50 rfl) eT (g := (mkF m 205 (own_L p0 p1 p2 p3 p4 p5 (.val (.int (p0 &&& (7 : Int32)))) (.val (.ref w)) (.val nv) (.val (.int (p1 &&& (3 : Int32)))) (.val .null) (.val (.int (p2 &&& (3 : Int32)))) .unset .unset) [])) rfl (hb hby at_205) (by decide) (by decide)
          obtain ⟨tt, gq_tt⟩ : ∃ z, z = h.size := ⟨_, rfl⟩
          rw [← gq_tt] at A31 D31 st31
          have g_tt : n0 ≤ tt := Nat.le_trans Zx (Nat.le_of_eq gq_tt.symm)
          have CQ31 := CHr.ext E31 CHx
          have CH31 := CQ31.1
          have CR31 := CRx.trans CQ31
          have hk := Nat.le_trans hk E31.1
          have Z31 : n0 ≤ h31.size := Nat.le_trans Zx E31.1
          have F_kind_tt_31 : Fld Z h31 tt oNT "kind" "Lcom/example/thames/thames/model/NodeKind;" .null := D31 (Or.inr (own_h hw 59 rfl)) (ty := (.object oNK)) (by decide)
          have F_namespaceUri_tt_31 : Fld Z h31 tt oNT "namespaceUri" "Ljava/lang/String;" .null := D31 (Or.inr (own_h hw 61 rfl)) (ty := (.object "java/lang/String")) (by decide)
          have F_localName_tt_31 : Fld Z h31 tt oNT "localName" "Ljava/lang/String;" .null := D31 (Or.inr (own_h hw 63 rfl)) (ty := (.object "java/lang/String")) (by decide)
          have F_type_tt_31 : Fld Z h31 tt oNT "type" "Lcom/example/thames/thames/model/SchemaType;" .null := D31 (Or.inr (own_h hw 65 rfl)) (ty := (.object "com/example/thames/thames/model/SchemaType")) (by decide)
          have F_elementTest_tt_31 : Fld Z h31 tt oNT "elementTest" "Lcom/example/thames/thames/engine/NodeTest;" .null := D31 (Or.inr (own_h hw 67 rfl)) (ty := (.object oNT)) (by decide)
          have F_elementQuery_tt_31 : Fld Z h31 tt oNT "elementQuery" "Lcom/example/thames/thames/model/ElementQuery;" .null := D31 (Or.inr (own_h hw 75 rfl)) (ty := (.object oEQ)) (by decide)
          refine Goes.go st31 ?_
          have gb_tt : h.size ≤ tt := Nat.le_of_eq gq_tt.symm
          show Goes p e below _ (T31.setTop (mkF m 208 (own_L p0 p1 p2 p3 p4 p5 (.val (.int (p0 &&& (7 : Int32)))) (.val (.ref w)) (.val nv) (.val (.int (p1 &&& (3 : Int32)))) (.val .null) (.val (.int (p2 &&& (3 : Int32)))) .unset .unset) [(.ref tt)]))
          refine Goes.go (fun t => XS.dup X31.here hx rfl (hb hby at_208) rfl rfl) ?_
          refine Goes.go (fun t => XS.aload X31.here hx rfl (hb hby at_209) rfl rfl ) ?_
          refine Goes.go (fun t => XS.aload X31.here hx rfl (hb hby at_211) rfl (by assumption) ) ?_
          refine Goes.go (fun t => XS.aload X31.here hx rfl (hb hby at_213) rfl rfl ) ?_
          show Goes p e below _ (T31.setTop (mkF m 215 (own_L p0 p1 p2 p3 p4 p5 (.val (.int (p0 &&& (7 : Int32)))) (.val (.ref w)) (.val nv) (.val (.int (p1 &&& (3 : Int32)))) (.val .null) (.val (.int (p2 &&& (3 : Int32)))) .unset .unset) [.null, nv, (.ref w), (.ref tt), (.ref tt)]))
          obtain ⟨_, _, ⟨T32, L32, k32, n32⟩, -, X32, ⟨Lc32, hQ32, l32, y32, z32⟩, st32⟩ := X31.specialBack hx (y := (⟨oNT, "<init>", "(Lcom/example/thames/thames/model/NodeKind;Ljava/lang/String;Ljava/lang/String;)V"⟩ : MethodName)) rfl hown (mvT hZ (own_h hw 51 rfl)) (mvT hZ (own_h hw 52 rfl)) (mvT hZ (own_h hw 53 rfl)) (by decide) (backOf (W := 1) (rmTW3 l Z a0 hw [] tt w nv .null w_ELEMENT h h31 n0 Z31 NS2.isref LN2.isref E31 gb_tt g_tt SE2 A31 F_kind_tt_31 F_namespaceUri_tt_31 F_localName_tt_31 F_type_tt_31 F_elementTest_tt_31 F_elementQuery_tt_31 hne) hZ (own_h hw 53 rfl) (own_h hw 50 rfl) (by decide) (by decide)) (g := (mkF m 215 (own_L p0 p1 p2 p3 p4 p5 (.val (.int (p0 &&& (7 : Int32)))) (.val (.ref w)) (.val nv) (.val (.int (p1 &&& (3 : Int32)))) (.val .null) (.val (.int (p2 &&& (3 : Int32)))) .unset .unset) [.null, nv, (.ref w), (.ref tt), (.ref tt)])) rfl (by rw [hml]; rfl) (Steps.refl _) (a := tt) (argsL := [(.ref w), nv, .null]) (rest := [(.ref tt)]) (lenOf pd0_2 rfl) rfl (by show 2 * 0 + _ ≤ _; exact Nat.le_of_eq rfl) (hb hby at_215) (fun _ _ => ⟨rfl, e31, (by decide : 9 + 0 ≤ _), (by decide : 46 + 0 ≤ _)⟩)
          dsimp only [Pt.U, Pt.locs, Pt.cells, Pt.slots] at X32 l32 y32 z32 st32 hQ32
          subst l32 y32 z32
          obtain ⟨rfl, N32q, K32, Fkind32, FnamespaceUri32, FlocalName32, Ftype32, FelementTest32, FelementQuery32⟩ := hQ32
          have N32 := Fr.app N N32q
          refine Goes.via st32 ?_
          have CQ32 := CHr.keep K32 (sfS (Safe.exa hZ.alike A31 (by decide) (by decide)) sf0) CH31
          have CH32 := CQ32.1
          have CR32 := CR31.trans CQ32
          have hk := Nat.le_trans hk K32.1
          have Z32 : n0 ≤ T32.heap.size := Nat.le_trans Z31 K32.1
          have E_tt_32 : Exa Z T32.heap tt oNT := A31.keep K32
          show Goes p e below _ (T32.setTop (mkF m 218 (own_L p0 p1 p2 p3 p4 p5 (.val (.int (p0 &&& (7 : Int32)))) (.val (.ref w)) (.val nv) (.val (.int (p1 &&& (3 : Int32)))) (.val .null) (.val (.int (p2 &&& (3 : Int32)))) .unset .unset) [(.ref tt)]))
          refine Goes.go (fun t => XS.astore X32.here hx rfl (hb hby at_218) rfl rfl (l' := (own_L p0 p1 p2 p3 p4 p5 (.val (.int (p0 &&& (7 : Int32)))) (.val (.ref w)) (.val nv) (.val (.int (p1 &&& (3 : Int32)))) (.val .null) (.val (.int (p2 &&& (3 : Int32)))) (.val (.ref tt)) .unset)) rfl) ?_
          refine Goes.go (fun t => XS.iload X32.here hx rfl (hb hby at_220) rfl ) ?_
          refine Goes.go (fun t => XS.iconst X32.here hx rfl (hb hby at_222)) ?_
          show Goes p e below _ (T32.setTop (mkF m 223 (own_L p0 p1 p2 p3 p4 p5 (.val (.int (p0 &&& (7 : Int32)))) (.val (.ref w)) (.val nv) (.val (.int (p1 &&& (3 : Int32)))) (.val .null) (.val (.int (p2 &&& (3 : Int32)))) (.val (.ref tt)) .unset) [(.int (1 : Int32)), (.int (p0 &&& (7 : Int32)))]))
          refine Goes.go (fun t => XS.icmpYes X32.here hx rfl (pc0 := 223) (pc' := 232) rfl (hb hby at_223) rfl (Jvm.Free.XT.ii_ne_t hn1) (by decide) (by decide)) ?_
          show Goes p e below _ (T32.setTop (mkF m 232 (own_L p0 p1 p2 p3 p4 p5 (.val (.int (p0 &&& (7 : Int32)))) (.val (.ref w)) (.val nv) (.val (.int (p1 &&& (3 : Int32)))) (.val .null) (.val (.int (p2 &&& (3 : Int32)))) (.val (.ref tt)) .unset) []))
          refine Goes.go (fun t => XS.iload X32.here hx rfl (hb hby at_232) rfl ) ?_
          refine Goes.go (fun t => XS.bipush X32.here hx rfl (hb hby at_234)) ?_
          show Goes p e below _ (T32.setTop (mkF m 236 (own_L p0 p1 p2 p3 p4 p5 (.val (.int (p0 &&& (7 : Int32)))) (.val (.ref w)) (.val nv) (.val (.int (p1 &&& (3 : Int32)))) (.val .null) (.val (.int (p2 &&& (3 : Int32)))) (.val (.ref tt)) .unset) [(.int (7 : Int32)), (.int (p0 &&& (7 : Int32)))]))
          refine Goes.go (fun t => XS.icmpYes X32.here hx rfl (pc0 := 236) (pc' := 259) rfl (hb hby at_236) rfl (Jvm.Free.XT.ii_ne_t hn7) (by decide) (by decide)) ?_
          show Goes p e below _ (T32.setTop (mkF m 259 (own_L p0 p1 p2 p3 p4 p5 (.val (.int (p0 &&& (7 : Int32)))) (.val (.ref w)) (.val nv) (.val (.int (p1 &&& (3 : Int32)))) (.val .null) (.val (.int (p2 &&& (3 : Int32)))) (.val (.ref tt)) .unset) []))
          refine Goes.go (fun t => XS.iconst X32.here hx rfl (hb hby at_259)) ?_
          refine Goes.go (fun t => XS.istore X32.here hx rfl (hb hby at_260) rfl (l' := (own_L p0 p1 p2 p3 p4 p5 (.val (.int (p0 &&& (7 : Int32)))) (.val (.ref w)) (.val nv) (.val (.int (p1 &&& (3 : Int32)))) (.val .null) (.val (.int (p2 &&& (3 : Int32)))) (.val (.ref tt)) (.val (.int (0 : Int32))))) rfl) ?_
          refine Goes.go (fun t => XS.aload X32.here hx rfl (hb hby at_262) rfl rfl ) ?_
          show Goes p e below _ (T32.setTop (mkF m 264 (own_L p0 p1 p2 p3 p4 p5 (.val (.int (p0 &&& (7 : Int32)))) (.val (.ref w)) (.val nv) (.val (.int (p1 &&& (3 : Int32)))) (.val .null) (.val (.int (p2 &&& (3 : Int32)))) (.val (.ref tt)) (.val (.int (0 : Int32)))) [(.ref tt)]))
          obtain ⟨cq33, kq33, q33a, q33b, q33c⟩ := isOf hZ rfl E_tt_32
          obtain ⟨_, _, ⟨T33, L33, k33, n33⟩, -, X33, ⟨Lc33, hQ33, l33, y33, z33⟩, st33⟩ := X32.virtualBack hx (y := (⟨oNT, "listedByTree", "()Z"⟩ : MethodName)) (z := (⟨oNT, "listedByTree", "()Z"⟩ : MethodName)) hown (mvT hZ (own_h hw 76 rfl)) (mvT hZ (own_h hw 77 rfl)) (notFace_of_selects (args := #[]) (mvT hZ (own_h hw 79 rfl))) (mvT hZ (own_h hw 79 rfl)) (mvT hZ (own_h hw 78 rfl)) (by decide) (backOf (W := 0) (rmLB l Z a0 hw [] tt w T32.heap n0 Z32 Fkind32 FelementQuery32) hZ (own_h hw 80 rfl) (own_h hw 50 rfl) (by decide) (by decide)) q33a q33c (g := (mkF m 264 (own_L p0 p1 p2 p3 p4 p5 (.val (.int (p0 &&& (7 : Int32)))) (.val (.ref w)) (.val nv) (.val (.int (p1 &&& (3 : Int32)))) (.val .null) (.val (.int (p2 &&& (3 : Int32)))) (.val (.ref tt)) (.val (.int (0 : Int32)))) [(.ref tt)])) rfl (by rw [hml]; rfl) (Steps.refl _) (argsL := []) (rest := []) (lenOf pd0_3 rfl) rfl (by show 2 * 0 + _ ≤ _; exact Nat.le_of_eq rfl) (hb hby at_264) (fun _ _ => ⟨rfl, rfl, (by decide : 9 + 0 ≤ _), (by decide : 46 + 0 ≤ _)⟩)
          dsimp only [Pt.U, Pt.locs, Pt.cells, Pt.slots] at X33 l33 y33 z33 st33 hQ33
          subst l33 y33 z33
          obtain ⟨rfl, N33q, e33q⟩ := hQ33
          have N33 := Fr.app N32 N33q
          refine Goes.via st33 ?_
          show Goes p e below _ (T33.setTop (mkF m 267 (own_L p0 p1 p2 p3 p4 p5 (.val (.int (p0 &&& (7 : Int32)))) (.val (.ref w)) (.val nv) (.val (.int (p1 &&& (3 : Int32)))) (.val .null) (.val (.int (p2 &&& (3 : Int32)))) (.val (.ref tt)) (.val (.int (0 : Int32)))) [(.int (0 : Int32))]))
          refine Goes.go (fun t => XS.iload X33.here hx rfl (hb hby at_267) rfl ) ?_
          show Goes p e below _ (T33.setTop (mkF m 269 (own_L p0 p1 p2 p3 p4 p5 (.val (.int (p0 &&& (7 : Int32)))) (.val (.ref w)) (.val nv) (.val (.int (p1 &&& (3 : Int32)))) (.val .null) (.val (.int (p2 &&& (3 : Int32)))) (.val (.ref tt)) (.val (.int (0 : Int32)))) [(.int (0 : Int32)), (.int (0 : Int32))]))
          refine Goes.go (fun t => XS.icmpNo X33.here hx rfl (hb hby at_269) rfl (Jvm.Free.XT.ii_ne_f (by decide))) ?_
          show Goes p e below _ (T33.setTop (mkF m 272 (own_L p0 p1 p2 p3 p4 p5 (.val (.int (p0 &&& (7 : Int32)))) (.val (.ref w)) (.val nv) (.val (.int (p1 &&& (3 : Int32)))) (.val .null) (.val (.int (p2 &&& (3 : Int32)))) (.val (.ref tt)) (.val (.int (0 : Int32)))) []))
          refine Goes.go (fun t => XS.iconst X33.here hx rfl (hb hby at_272)) ?_
          refine Goes.go (fun t => XS.goto X33.here hx rfl (pc0 := 273) (pc' := 277) rfl (hb hby at_273) (by decide) (by decide)) ?_
          show Goes p e below _ (T33.setTop (mkF m 277 (own_L p0 p1 p2 p3 p4 p5 (.val (.int (p0 &&& (7 : Int32)))) (.val (.ref w)) (.val nv) (.val (.int (p1 &&& (3 : Int32)))) (.val .null) (.val (.int (p2 &&& (3 : Int32)))) (.val (.ref tt)) (.val (.int (0 : Int32)))) [(.int (1 : Int32))]))
          exact Goes.outW X33 hS (by rw [e33q]; exact hk) (fun h => by rw [Bd.returns] at h; cases h) Bd.notSynchronized (fun fs hr => retN X33 hx (t := .boolean) Bd.returns (by simp) (hb hby at_277) hr) ⟨rfl, N33⟩ (by rw [hh, e33q]; exact CR32.trans (CHv.at X33 hZ (own_ew hw) CH32)) (by decide) (by decide)
      · refine Goes.go (fun t => XS.icmpNo X.here hx rfl (hb hby at_162) rfl (Jvm.Free.XT.ii_lt_f hc162)) ?_
        show Goes p e below _ (T.setTop (mkF m 165 (own_L p0 p1 p2 p3 p4 p5 (.val (.int (p0 &&& (7 : Int32)))) (.val kv) (.val nv) (.val (.int (p1 &&& (3 : Int32)))) (.val .null) (.val (.int (p2 &&& (3 : Int32)))) .unset .unset) []))
        refine Goes.go (fun t => XS.iconst X.here hx rfl (hb hby at_165)) ?_
        show Goes p e below _ (T.setTop (mkF m 166 (own_L p0 p1 p2 p3 p4 p5 (.val (.int (p0 &&& (7 : Int32)))) (.val kv) (.val nv) (.val (.int (p1 &&& (3 : Int32)))) (.val .null) (.val (.int (p2 &&& (3 : Int32)))) .unset .unset) [(.int (2 : Int32))]))
        obtain ⟨T34, h34, k34, X34, e34, E34, A34, st34⟩ := newP X hx hZ (own_h hw 7 rfl) eT (g := (mkF m 166 (own_L p0 p1 p2 p3 p4 p5 (.val (.int (p0 &&& (7 : Int32)))) (.val kv) (.val nv) (.val (.int (p1 &&& (3 : Int32)))) (.val .null) (.val (.int (p2 &&& (3 : Int32)))) .unset .unset) [(.int (2 : Int32))])) rfl (hb hby at_166) rfl (by decide) (cap := 2) (by decide) (by decide) (by decide) (by decide)
        obtain ⟨c34, gq_c34⟩ : ∃ z, z = h.size := ⟨_, rfl⟩
        rw [← gq_c34] at A34 st34
        have g_c34 : n0 ≤ c34 := Nat.le_trans Zx (Nat.le_of_eq gq_c34.symm)
        have gb_c34 : h.size ≤ c34 := Nat.le_trans (⟨Nat.le_refl _, fun _ _ q => q⟩ : Ext h h).1 (Nat.le_of_eq gq_c34.symm)
        have CQ34 := CHr.ext E34 CHx
        have CH34 := CQ34.1
        have CR34 := CRx.trans CQ34
        have hk := Nat.le_trans hk E34.1
        have Z34 : n0 ≤ h34.size := Nat.le_trans Zx E34.1
        have B34 : Ext h h34 := own_ext_trans (⟨Nat.le_refl _, fun _ _ q => q⟩ : Ext h h) E34
        have V_c34 : Arv Z h34 c34 k34 .char (2 : Int32) [(.int (0 : Int32)), (.int (0 : Int32))] (.int (0 : Int32)) := (Arv.new A34 (by decide)).pad (pad_rep [] (.int (0 : Int32)) 2)
        refine Goes.go st34 ?_
        show Goes p e below _ (T34.setTop (mkF m 168 (own_L p0 p1 p2 p3 p4 p5 (.val (.int (p0 &&& (7 : Int32)))) (.val kv) (.val nv) (.val (.int (p1 &&& (3 : Int32)))) (.val .null) (.val (.int (p2 &&& (3 : Int32)))) .unset .unset) [(.ref c34)]))
        refine Goes.go (fun t => XS.astore X34.here hx rfl (hb hby at_168) rfl rfl (l' := (own_L p0 p1 p2 p3 p4 p5 (.val (.int (p0 &&& (7 : Int32)))) (.val kv) (.val nv) (.val (.int (p1 &&& (3 : Int32)))) (.val .null) (.val (.int (p2 &&& (3 : Int32)))) (.val (.ref c34)) .unset)) rfl) ?_
        refine Goes.go (fun t => XS.aload X34.here hx rfl (hb hby at_170) rfl rfl ) ?_
        refine Goes.go (fun t => XS.iconst X34.here hx rfl (hb hby at_172)) ?_
        refine Goes.go (fun t => XS.iload X34.here hx rfl (hb hby at_173) rfl ) ?_
        show Goes p e below _ (T34.setTop (mkF m 175 (own_L p0 p1 p2 p3 p4 p5 (.val (.int (p0 &&& (7 : Int32)))) (.val kv) (.val nv) (.val (.int (p1 &&& (3 : Int32)))) (.val .null) (.val (.int (p2 &&& (3 : Int32)))) (.val (.ref c34)) .unset) [(.int p5), (.int (0 : Int32)), (.ref c34)]))
        refine Goes.go (fun t => X34.ldcI hx hown (mvT hZ (own_h hw 41 rfl)) rfl (hb hby at_175)) ?_
        show Goes p e below _ (T34.setTop (mkF m 177 (own_L p0 p1 p2 p3 p4 p5 (.val (.int (p0 &&& (7 : Int32)))) (.val kv) (.val nv) (.val (.int (p1 &&& (3 : Int32)))) (.val .null) (.val (.int (p2 &&& (3 : Int32)))) (.val (.ref c34)) .unset) [(.int (65535 : Int32)), (.int p5), (.int (0 : Int32)), (.ref c34)]))
        refine Goes.go (fun t => XS.iand X34.here hx rfl (hb hby at_177) rfl) ?_
        show Goes p e below _ (T34.setTop (mkF m 178 (own_L p0 p1 p2 p3 p4 p5 (.val (.int (p0 &&& (7 : Int32)))) (.val kv) (.val nv) (.val (.int (p1 &&& (3 : Int32)))) (.val .null) (.val (.int (p2 &&& (3 : Int32)))) (.val (.ref c34)) .unset) [(.int (p5 &&& (65535 : Int32))), (.int (0 : Int32)), (.ref c34)]))
        obtain ⟨_, _, ⟨T35, L35, k35, n35⟩, -, X35, ⟨Lc35, hQ35, l35, y35, z35⟩, st35⟩ := Jvm.LawKit.callS X34 hx (y := (⟨"com/example/thames/thames/engine/NodeTestListedByTreePinLaw", "startChar", "(I)C"⟩ : MethodName)) hown (mvT hZ (own_h hw 42 rfl)) (mvT hZ (own_h hw 43 rfl)) (mvT hZ (own_h hw 2 rfl)) (mvT hZ (own_h hw 44 rfl)) (by decide) (backOf (W := 2) (rmSR l Z a0 hw [] (p5 &&& (65535 : Int32)) h34 n0 Z34) hZ (own_h hw 44 rfl) (own_h hw 2 rfl) (by decide) (by decide)) (g := (mkF m 178 (own_L p0 p1 p2 p3 p4 p5 (.val (.int (p0 &&& (7 : Int32)))) (.val kv) (.val nv) (.val (.int (p1 &&& (3 : Int32)))) (.val .null) (.val (.int (p2 &&& (3 : Int32)))) (.val (.ref c34)) .unset) [(.int (p5 &&& (65535 : Int32))), (.int (0 : Int32)), (.ref c34)])) rfl (by rw [hml]; rfl) (argsL := [(.int (p5 &&& (65535 : Int32)))]) (rest := [(.int (0 : Int32)), (.ref c34)]) (lenOf pd0_0 rfl) rfl (by show 2 * 0 + _ ≤ _; exact Nat.le_of_eq rfl) (hb hby at_178) (fun _ _ => ⟨rfl, e34, (by decide : 9 + 0 ≤ _), (by decide : 42 + 0 ≤ _)⟩)
        dsimp only [Pt.U, Pt.locs, Pt.cells, Pt.slots] at X35 l35 y35 z35 st35 hQ35
        subst l35 y35 z35
        obtain ⟨ch35, rfl, N35q, e35q, hch35⟩ := hQ35
        have N35 := Fr.app N N35q
        refine Goes.go st35 ?_
        show Goes p e below _ (T35.setTop (mkF m 181 (own_L p0 p1 p2 p3 p4 p5 (.val (.int (p0 &&& (7 : Int32)))) (.val kv) (.val nv) (.val (.int (p1 &&& (3 : Int32)))) (.val .null) (.val (.int (p2 &&& (3 : Int32)))) (.val (.ref c34)) .unset) [(.int ch35), (.int (0 : Int32)), (.ref c34)]))
        have sf36 : Safe Z own_EL vm0 h34 c34 := Safe.arv hZ.alike V_c34 (by decide)
        obtain ⟨cl36, Ar36, q36, Sz36, Nn36, Hh36, Gg36⟩ := id V_c34
        obtain ⟨T36, h36, X36, e36, W36, st36⟩ := stC X35 hx hZ e35q Ar36 (j := (0 : Int32)) (inb_of Sz36 ⟨by decide, by decide⟩) (g := (mkF m 181 (own_L p0 p1 p2 p3 p4 p5 (.val (.int (p0 &&& (7 : Int32)))) (.val kv) (.val nv) (.val (.int (p1 &&& (3 : Int32)))) (.val .null) (.val (.int (p2 &&& (3 : Int32)))) (.val (.ref c34)) .unset) [(.int ch35), (.int (0 : Int32)), (.ref c34)])) rfl rfl (hb hby at_181)
        rw [own_narch hch35.ch] at W36
        have V36 : Arv Z h36 c34 k34 .char (2 : Int32) [(.int ch35), (.int (0 : Int32))] (.int (0 : Int32)) := Arv.set Ar36 q36 Sz36 Nn36 Hh36 Gg36 (own_fitch hch35.ch) W36 0 rfl (Nat.le_of_ble_eq_true rfl)
        have CQ36 := CHr.wr W36 sf36 CH34
        have CH36 := CQ36.1
        have CR36 := CR34.trans CQ36
        have hk := Nat.le_trans hk (Nat.le_of_eq W36.size.symm)
        have Z36 : n0 ≤ h36.size := Nat.le_trans Z34 (Nat.le_of_eq W36.size.symm)
        have B36 : Ext h h36 := own_ext_wr B34 W36 gb_c34
        have N36 := Fr.snoc X36 N35 g_c34
        refine Goes.go st36 ?_
        obtain ⟨LL37, XL37, NL37⟩ : ∃ LL : List Loc, Stand p l e room_1 (s.setVm vm0) m #[(.int p0), (.int p1), (.int p2), (.int p3), (.int p4), (.int p5)] below meth c T36 LL 9 42 ∧ Fr n0 LL := ⟨_, X36, N36⟩
        show Goes p e below _ (T36.setTop (mkF m 182 (own_L p0 p1 p2 p3 p4 p5 (.val (.int (p0 &&& (7 : Int32)))) (.val kv) (.val nv) (.val (.int (p1 &&& (3 : Int32)))) (.val .null) (.val (.int (p2 &&& (3 : Int32)))) (.val (.ref c34)) .unset) []))
        refine Goes.go (fun t => XS.aload XL37.here hx rfl (hb hby at_182) rfl rfl ) ?_
        refine Goes.go (fun t => XS.iconst XL37.here hx rfl (hb hby at_184)) ?_
        refine Goes.go (fun t => XS.iload XL37.here hx rfl (hb hby at_185) rfl ) ?_
        refine Goes.go (fun t => XS.bipush XL37.here hx rfl (hb hby at_187)) ?_
        show Goes p e below _ (T36.setTop (mkF m 189 (own_L p0 p1 p2 p3 p4 p5 (.val (.int (p0 &&& (7 : Int32)))) (.val kv) (.val nv) (.val (.int (p1 &&& (3 : Int32)))) (.val .null) (.val (.int (p2 &&& (3 : Int32)))) (.val (.ref c34)) .unset) [(.int (16 : Int32)), (.int p5), (.int (1 : Int32)), (.ref c34)]))
        refine Goes.go (fun t => XS.iushr XL37.here hx rfl (hb hby at_189) rfl) ?_
        show Goes p e below _ (T36.setTop (mkF m 190 (own_L p0 p1 p2 p3 p4 p5 (.val (.int (p0 &&& (7 : Int32)))) (.val kv) (.val nv) (.val (.int (p1 &&& (3 : Int32)))) (.val .null) (.val (.int (p2 &&& (3 : Int32)))) (.val (.ref c34)) .unset) [(.int ((p5.toUInt32 >>> ((16 : Int32) &&& 31).toUInt32).toInt32)), (.int (1 : Int32)), (.ref c34)]))
        obtain ⟨_, _, ⟨T38, L38, k38, n38⟩, -, X38, ⟨Lc38, hQ38, l38, y38, z38⟩, st38⟩ := Jvm.LawKit.callS XL37 hx (y := (⟨"com/example/thames/thames/engine/NodeTestListedByTreePinLaw", "nameChar", "(I)C"⟩ : MethodName)) hown (mvT hZ (own_h hw 45 rfl)) (mvT hZ (own_h hw 46 rfl)) (mvT hZ (own_h hw 2 rfl)) (mvT hZ (own_h hw 47 rfl)) (by decide) (backOf (W := 2) (rmNR l Z a0 hw [] ((p5.toUInt32 >>> ((16 : Int32) &&& 31).toUInt32).toInt32) h36 n0 Z36) hZ (own_h hw 47 rfl) (own_h hw 2 rfl) (by decide) (by decide)) (g := (mkF m 190 (own_L p0 p1 p2 p3 p4 p5 (.val (.int (p0 &&& (7 : Int32)))) (.val kv) (.val nv) (.val (.int (p1 &&& (3 : Int32)))) (.val .null) (.val (.int (p2 &&& (3 : Int32)))) (.val (.ref c34)) .unset) [(.int ((p5.toUInt32 >>> ((16 : Int32) &&& 31).toUInt32).toInt32)), (.int (1 : Int32)), (.ref c34)])) rfl (by rw [hml]; rfl) (argsL := [(.int ((p5.toUInt32 >>> ((16 : Int32) &&& 31).toUInt32).toInt32))]) (rest := [(.int (1 : Int32)), (.ref c34)]) (lenOf pd0_0 rfl) rfl (by show 2 * 0 + _ ≤ _; exact Nat.le_of_eq rfl) (hb hby at_190) (fun _ _ => ⟨rfl, e36, (by decide : 9 + 0 ≤ _), (by decide : 42 + 0 ≤ _)⟩)
        dsimp only [Pt.U, Pt.locs, Pt.cells, Pt.slots] at X38 l38 y38 z38 st38 hQ38
        subst l38 y38 z38
        obtain ⟨ch38, rfl, N38q, e38q, hch38⟩ := hQ38
        have N38 := Fr.app NL37 N38q
        refine Goes.go st38 ?_
        show Goes p e below _ (T38.setTop (mkF m 193 (own_L p0 p1 p2 p3 p4 p5 (.val (.int (p0 &&& (7 : Int32)))) (.val kv) (.val nv) (.val (.int (p1 &&& (3 : Int32)))) (.val .null) (.val (.int (p2 &&& (3 : Int32)))) (.val (.ref c34)) .unset) [(.int ch38), (.int (1 : Int32)), (.ref c34)]))
        have sf39 : Safe Z own_EL vm0 h36 c34 := Safe.arv hZ.alike V36 (by decide)
        obtain ⟨cl39, Ar39, q39, Sz39, Nn39, Hh39, Gg39⟩ := id V36
        obtain ⟨T39, h39, X39, e39, W39, st39⟩ := stC X38 hx hZ e38q Ar39 (j := (1 : Int32)) (inb_of Sz39 ⟨by decide, by decide⟩) (g := (mkF m 193 (own_L p0 p1 p2 p3 p4 p5 (.val (.int (p0 &&& (7 : Int32)))) (.val kv) (.val nv) (.val (.int (p1 &&& (3 : Int32)))) (.val .null) (.val (.int (p2 &&& (3 : Int32)))) (.val (.ref c34)) .unset) [(.int ch38), (.int (1 : Int32)), (.ref c34)])) rfl rfl (hb hby at_193)
        rw [own_narch hch38.ch] at W39
        have V39 : Arv Z h39 c34 k34 .char (2 : Int32) [(.int ch35), (.int ch38)] (.int (0 : Int32)) := Arv.set Ar39 q39 Sz39 Nn39 Hh39 Gg39 (own_fitch hch38.ch) W39 1 rfl (Nat.le_of_ble_eq_true rfl)
        have CQ39 := CHr.wr W39 sf39 CH36
        have CH39 := CQ39.1
        have CR39 := CR36.trans CQ39
        have hk := Nat.le_trans hk (Nat.le_of_eq W39.size.symm)
        have Z39 : n0 ≤ h39.size := Nat.le_trans Z36 (Nat.le_of_eq W39.size.symm)
        have B39 : Ext h h39 := own_ext_wr B36 W39 gb_c34
        have N39 := Fr.snoc X39 N38 g_c34
        refine Goes.go st39 ?_
        obtain ⟨LL40, XL40, NL40⟩ : ∃ LL : List Loc, Stand p l e room_1 (s.setVm vm0) m #[(.int p0), (.int p1), (.int p2), (.int p3), (.int p4), (.int p5)] below meth c T39 LL 9 42 ∧ Fr n0 LL := ⟨_, X39, N39⟩
        show Goes p e below _ (T39.setTop (mkF m 194 (own_L p0 p1 p2 p3 p4 p5 (.val (.int (p0 &&& (7 : Int32)))) (.val kv) (.val nv) (.val (.int (p1 &&& (3 : Int32)))) (.val .null) (.val (.int (p2 &&& (3 : Int32)))) (.val (.ref c34)) .unset) []))
        obtain ⟨T42, h42, X42, e42, E42, A42, D42, -, st42⟩ := newO XL40 hx hZ hown (own_h hw 12 rfl) (own_h hw 13 rfl) (own_h hw 14 rfl) e39 (g := (mkF m 194 (own_L p0 p1 p2 p3 p4 p5 (.val (.int (p0 &&& (7 : Int32)))) (.val kv) (.val nv) (.val (.int (p1 &&& (3 : Int32)))) (.val .null) (.val (.int (p2 &&& (3 : Int32)))) (.val (.ref c34)) .unset) [])) rfl (hb hby at_194) (by decide) (by decide)
        obtain ⟨x41, gq_x41⟩ : ∃ z, z = h39.size := ⟨_, rfl⟩
        rw [← gq_x41] at A42 D42 st42
        have g_x41 : n0 ≤ x41 := Nat.le_trans Z39 (Nat.le_of_eq gq_x41.symm)
        have gb_x41 : h.size ≤ x41 := Nat.le_trans B39.1 (Nat.le_of_eq gq_x41.symm)
        have sn_x41 : Safe Z own_EL vm0 h39 x41 := Safe.new (Nat.le_of_eq gq_x41.symm)
        have CQ42 := CHr.ext E42 CH39
        have CH42 := CQ42.1
        have CR42 := CR39.trans CQ42
        have hk := Nat.le_trans hk E42.1
        have SF_x41_42 := Safe.ext E42 CH39 sn_x41
        have Z42 : n0 ≤ h42.size := Nat.le_trans Z39 E42.1
        have B42 : Ext h h42 := own_ext_trans B39 E42
        have F_coder_x41_42 : Fld Z h42 x41 "java/lang/String" "coder" "B" (.int (0 : Int32)) := D42 (Or.inr (own_h hw 38 rfl)) (ty := .byte) (by decide)
        have F_value_x41_42 : Fld Z h42 x41 "java/lang/String" "value" "[B" .null := D42 (Or.inr (own_h hw 40 rfl)) (ty := (.array .byte)) (by decide)
        refine Goes.go st42 ?_
        have V43 := V39.ext E42
        show Goes p e below _ (T42.setTop (mkF m 197 (own_L p0 p1 p2 p3 p4 p5 (.val (.int (p0 &&& (7 : Int32)))) (.val kv) (.val nv) (.val (.int (p1 &&& (3 : Int32)))) (.val .null) (.val (.int (p2 &&& (3 : Int32)))) (.val (.ref c34)) .unset) [(.ref x41)]))
        refine Goes.go (fun t => XS.dup X42.here hx rfl (hb hby at_197) rfl rfl) ?_
        refine Goes.go (fun t => XS.aload X42.here hx rfl (hb hby at_198) rfl rfl ) ?_
        show Goes p e below _ (T42.setTop (mkF m 200 (own_L p0 p1 p2 p3 p4 p5 (.val (.int (p0 &&& (7 : Int32)))) (.val kv) (.val nv) (.val (.int (p1 &&& (3 : Int32)))) (.val .null) (.val (.int (p2 &&& (3 : Int32)))) (.val (.ref c34)) .unset) [(.ref c34), (.ref x41), (.ref x41)]))
        have hpx41 : ∀ c ∈ ([ch35, ch38] : List Int32), ¬ c < 0 ∧ ¬ (255 : Int32) < c := by
          intro c hc; simp only [List.mem_cons, List.not_mem_nil, or_false] at hc
          rcases hc with rfl | rfl
          · exact hch35.ch.bd
          · exact hch38.ch.bd
        obtain ⟨_, _, ⟨T44, L44, k44, n44⟩, -, X44, ⟨Lc44, hQ44, l44, y44, z44⟩, st44⟩ := X42.specialBack hx (y := (⟨"java/lang/String", "<init>", "([C)V"⟩ : MethodName)) rfl hown (mvT hZ (own_h hw 15 rfl)) (mvT hZ (own_h hw 16 rfl)) (mvT hZ (own_h hw 17 rfl)) (by decide) (StrChars.Road.backV (W := 1) hZ (fun d hd => hw d (own_wNew d hd)) (kI := 4) (own_h hw 13 rfl) (cs := ([ch35, ch38] : List Int32)) (bs := ([ch35, ch38] : List Int32).map (fun c => c.toInt8.toInt32)) (n := 2) g_x41 Z42 A42 F_value_x41_42 F_coder_x41_42 V43 (S_z.ext B42) hz rfl rfl (by decide) (by decide) hpx41 rfl (by decide) (by decide)) (g := (mkF m 200 (own_L p0 p1 p2 p3 p4 p5 (.val (.int (p0 &&& (7 : Int32)))) (.val kv) (.val nv) (.val (.int (p1 &&& (3 : Int32)))) (.val .null) (.val (.int (p2 &&& (3 : Int32)))) (.val (.ref c34)) .unset) [(.ref c34), (.ref x41), (.ref x41)])) rfl (by rw [hml]; rfl) (Steps.refl _) (a := x41) (argsL := [(.ref c34)]) (rest := [(.ref x41)]) (lenOf pd0_1 rfl) rfl (by show 2 * 0 + _ ≤ _; exact Nat.le_of_eq rfl) (hb hby at_200) (fun _ _ => ⟨rfl, e42, (by decide : 10 + 1 ≤ _), (by decide : 46 + 2 ≤ _)⟩)
        dsimp only [Pt.U, Pt.locs, Pt.cells, Pt.slots] at X44 l44 y44 z44 st44 hQ44
        subst l44 y44 z44
        obtain ⟨rfl, N44q, K44, Ea44, Fc44, t44, kb44, -, -, -, Fv44, Av44⟩ := hQ44
        have N44 := Fr.app NL40 N44q
        refine Goes.via st44 ?_
        have CQ44 := CHr.keep K44 (sfS SF_x41_42 sf0) CH42
        have CH44 := CQ44.1
        have CR44 := CR42.trans CQ44
        have hk := Nat.le_trans hk K44.1
        have Z44 : n0 ≤ T44.heap.size := Nat.le_trans Z42 K44.1
        have B44 : Ext h T44.heap := own_ext_keep B42 K44 (allS gb_x41 all0)
        have E_x41_44 : Exa Z T44.heap x41 "java/lang/String" := A42.keep K44
        have Sx44 : own_s Z T44.heap x41 [ch35, ch38] := ⟨Ea44, Fc44, ⟨t44, kb44, Fv44, Av44⟩, hpx41, by show 2 ≤ 4000; decide⟩
        obtain ⟨LL45, XL45, NL45⟩ : ∃ LL : List Loc, Stand p l e room_1 (s.setVm vm0) m #[(.int p0), (.int p1), (.int p2), (.int p3), (.int p4), (.int p5)] below meth c T44 LL 11 48 ∧ Fr n0 LL := ⟨_, X44, N44⟩
        show Goes p e below _ (T44.setTop (mkF m 203 (own_L p0 p1 p2 p3 p4 p5 (.val (.int (p0 &&& (7 : Int32)))) (.val kv) (.val nv) (.val (.int (p1 &&& (3 : Int32)))) (.val .null) (.val (.int (p2 &&& (3 : Int32)))) (.val (.ref c34)) .unset) [(.ref x41)]))
        refine Goes.go (fun t => XS.astore XL45.here hx rfl (hb hby at_203) rfl rfl (l' := (own_L p0 p1 p2 p3 p4 p5 (.val (.int (p0 &&& (7 : Int32)))) (.val kv) (.val nv) (.val (.int (p1 &&& (3 : Int32)))) (.val (.ref x41)) (.val (.int (p2 &&& (3 : Int32)))) (.val (.ref c34)) .unset)) rfl) ?_
        rcases hkv with ⟨hk1, rfl⟩ | ⟨hk7, rfl⟩ | ⟨hn1, hn7, w, rfl, hne⟩
        · show Goes p e below _ (T44.setTop (mkF m 205 (own_L p0 p1 p2 p3 p4 p5 (.val (.int (p0 &&& (7 : Int32)))) (.val (.ref w_ELEMENT)) (.val nv) (.val (.int (p1 &&& (3 : Int32)))) (.val (.ref x41)) (.val (.int (p2 &&& (3 : Int32)))) (.val (.ref c34)) .unset) []))
          have NS2 := NSv.ext B44
          have V2 := V.ext B44
          have SE2 := SE.ext B44
          have LN2 : own_lnv Z T44.heap (.ref x41) := Or.inr ⟨_, _, rfl, Sx44, (Or.inr ⟨_, _, rfl, hch35, hch38⟩)⟩
          obtain ⟨T46, h46, X46, e46, E46, A46, D46, -, st46⟩ := newO XL45 hx hZ hown (own_h hw 48 rfl) (own_h hw 49 rfl) (own_h hw 50 rfl) rfl (g := (mkF m 205 (own_L p0 p1 p2 p3 p4 p5 (.val (.int (p0 &&& (7 : Int32)))) (.val (.ref w_ELEMENT)) (.val nv) (.val (.int (p1 &&& (3 : Int32)))) (.val (.ref x41)) (.val (.int (p2 &&& (3 : Int32)))) (.val (.ref c34)) .unset) [])) rfl (hb hby at_205) (by decide) (by decide)
          obtain ⟨tt, gq_tt⟩ : ∃ z, z = T44.heap.size := ⟨_, rfl⟩
          rw [← gq_tt] at A46 D46 st46
          have g_tt : n0 ≤ tt := Nat.le_trans Z44 (Nat.le_of_eq gq_tt.symm)
          have CQ46 := CHr.ext E46 CH44
          have CH46 := CQ46.1
          have CR46 := CR44.trans CQ46
          have hk := Nat.le_trans hk E46.1
          have Z46 : n0 ≤ h46.size := Nat.le_trans Z44 E46.1
          have F_kind_tt_46 : Fld Z h46 tt oNT "kind" "Lcom/example/thames/thames/model/NodeKind;" .null := D46 (Or.inr (own_h hw 59 rfl)) (ty := (.object oNK)) (by decide)
          have F_namespaceUri_tt_46 : Fld Z h46 tt oNT "namespaceUri" "Ljava/lang/String;" .null := D46 (Or.inr (own_h hw 61 rfl)) (ty := (.object "java/lang/String")) (by decide)
          have F_localName_tt_46 : Fld Z h46 tt oNT "localName" "Ljava/lang/String;" .null := D46 (Or.inr (own_h hw 63 rfl)) (ty := (.object "java/lang/String")) (by decide)
          have F_type_tt_46 : Fld Z h46 tt oNT "type" "Lcom/example/thames/thames/model/SchemaType;" .null := D46 (Or.inr (own_h hw 65 rfl)) (ty := (.object "com/example/thames/thames/model/SchemaType")) (by decide)
          have F_elementTest_tt_46 : Fld Z h46 tt oNT "elementTest" "Lcom/example/thames/thames/engine/NodeTest;" .null := D46 (Or.inr (own_h hw 67 rfl)) (ty := (.object oNT)) (by decide)
          have F_elementQuery_tt_46 : Fld Z h46 tt oNT "elementQuery" "Lcom/example/thames/thames/model/ElementQuery;" .null := D46 (Or.inr (own_h hw 75 rfl)) (ty := (.object oEQ)) (by decide)
          refine Goes.go st46 ?_
          have gb_tt : T44.heap.size ≤ tt := Nat.le_of_eq gq_tt.symm
          show Goes p e below _ (T46.setTop (mkF m 208 (own_L p0 p1 p2 p3 p4 p5 (.val (.int (p0 &&& (7 : Int32)))) (.val (.ref w_ELEMENT)) (.val nv) (.val (.int (p1 &&& (3 : Int32)))) (.val (.ref x41)) (.val (.int (p2 &&& (3 : Int32)))) (.val (.ref c34)) .unset) [(.ref tt)]))
          refine Goes.go (fun t => XS.dup X46.here hx rfl (hb hby at_208) rfl rfl) ?_
          refine Goes.go (fun t => XS.aload X46.here hx rfl (hb hby at_209) rfl rfl ) ?_
          refine Goes.go (fun t => XS.aload X46.here hx rfl (hb hby at_211) rfl (by assumption) ) ?_
          refine Goes.go (fun t => XS.aload X46.here hx rfl (hb hby at_213) rfl rfl ) ?_
          show Goes p e below _ (T46.setTop (mkF m 215 (own_L p0 p1 p2 p3 p4 p5 (.val (.int (p0 &&& (7 : Int32)))) (.val (.ref w_ELEMENT)) (.val nv) (.val (.int (p1 &&& (3 : Int32)))) (.val (.ref x41)) (.val (.int (p2 &&& (3 : Int32)))) (.val (.ref c34)) .unset) [(.ref x41), nv, (.ref w_ELEMENT), (.ref tt), (.ref tt)]))
          obtain ⟨_, _, ⟨T47, L47, k47, n47⟩, -, X47, hS47, hg47, ⟨Lc47, hQ47, l47, y47, z47, CQ47⟩, st47⟩ := X46.specialBackS hx (y := (⟨oNT, "<init>", "(Lcom/example/thames/thames/model/NodeKind;Ljava/lang/String;Ljava/lang/String;)V"⟩ : MethodName)) rfl hown (mvT hZ (own_h hw 51 rfl)) (mvT hZ (own_h hw 52 rfl)) (mvT hZ (own_h hw 53 rfl)) (by decide) (backOfSH (s := s) (vm0 := vm0) (W := 1) (rmTE3 l Z a0 hw [] tt w_ELEMENT nv (.ref x41) z fm wS wN cS cN T44.heap h46 n0 Z46 NS2.isref LN2.isref E46 gb_tt g_tt SE2 A46 F_kind_tt_46 F_namespaceUri_tt_46 F_localName_tt_46 F_type_tt_46 F_elementTest_tt_46 F_elementQuery_tt_46 V2 NS2 LN2) hZ (own_h hw 53 rfl) (own_h hw 50 rfl) (by decide) (by decide) (own_ew hw) CH46) (g := (mkF m 215 (own_L p0 p1 p2 p3 p4 p5 (.val (.int (p0 &&& (7 : Int32)))) (.val (.ref w_ELEMENT)) (.val nv) (.val (.int (p1 &&& (3 : Int32)))) (.val (.ref x41)) (.val (.int (p2 &&& (3 : Int32)))) (.val (.ref c34)) .unset) [(.ref x41), nv, (.ref w_ELEMENT), (.ref tt), (.ref tt)])) rfl (by rw [hml]; rfl) (Steps.refl _) (a := tt) (argsL := [(.ref w_ELEMENT), nv, (.ref x41)]) (rest := [(.ref tt)]) (lenOf pd0_2 rfl) rfl (by show 2 * 0 + _ ≤ _; exact Nat.le_of_eq rfl) (hb hby at_215) (fun _ _ => ⟨rfl, e46, (by decide : 12 + 14 ≤ _), (by decide : 54 + 277 ≤ _)⟩)
          dsimp only [Pt.U, Pt.locs, Pt.cells, Pt.slots] at X47 hS47 hg47 l47 y47 z47 st47 hQ47 CQ47
          subst l47 y47 z47
          obtain ⟨rfl, N47q, K47, Fk47, q, Fq47⟩ := hQ47
          have N47 := Fr.app NL45 N47q
          obtain ⟨X47, hS, hZ, hown⟩ := rebS (n1 := T46.heap.size) hS (by rw [e46]; exact hk) X47 hS47 hg47 hZ hown
          have hk : T47.heap.size ≤ T47.heap.size := Nat.le_refl _
          have CH47 := CQ47.1
          have CR47 := CR46.trans CQ47
          refine Goes.via st47 ?_
          have Z47 : n0 ≤ T47.heap.size := Nat.le_trans Z46 K47.1
          have E_tt_47 : Exa Z T47.heap tt oNT := A46.keep K47
          show Goes p e below _ (T47.setTop (mkF m 218 (own_L p0 p1 p2 p3 p4 p5 (.val (.int (p0 &&& (7 : Int32)))) (.val (.ref w_ELEMENT)) (.val nv) (.val (.int (p1 &&& (3 : Int32)))) (.val (.ref x41)) (.val (.int (p2 &&& (3 : Int32)))) (.val (.ref c34)) .unset) [(.ref tt)]))
          refine Goes.go (fun t => XS.astore X47.here hx rfl (hb hby at_218) rfl rfl (l' := (own_L p0 p1 p2 p3 p4 p5 (.val (.int (p0 &&& (7 : Int32)))) (.val (.ref w_ELEMENT)) (.val nv) (.val (.int (p1 &&& (3 : Int32)))) (.val (.ref x41)) (.val (.int (p2 &&& (3 : Int32)))) (.val (.ref tt)) .unset)) rfl) ?_
          refine Goes.go (fun t => XS.iload X47.here hx rfl (hb hby at_220) rfl ) ?_
          refine Goes.go (fun t => XS.iconst X47.here hx rfl (hb hby at_222)) ?_
          show Goes p e below _ (T47.setTop (mkF m 223 (own_L p0 p1 p2 p3 p4 p5 (.val (.int (p0 &&& (7 : Int32)))) (.val (.ref w_ELEMENT)) (.val nv) (.val (.int (p1 &&& (3 : Int32)))) (.val (.ref x41)) (.val (.int (p2 &&& (3 : Int32)))) (.val (.ref tt)) .unset) [(.int (1 : Int32)), (.int (p0 &&& (7 : Int32)))]))
          refine Goes.go (fun t => XS.icmpNo X47.here hx rfl (hb hby at_223) rfl (Jvm.Free.XT.ii_ne_f hk1)) ?_
          show Goes p e below _ (T47.setTop (mkF m 226 (own_L p0 p1 p2 p3 p4 p5 (.val (.int (p0 &&& (7 : Int32)))) (.val (.ref w_ELEMENT)) (.val nv) (.val (.int (p1 &&& (3 : Int32)))) (.val (.ref x41)) (.val (.int (p2 &&& (3 : Int32)))) (.val (.ref tt)) .unset) []))
          refine Goes.go (fun t => XS.iconst X47.here hx rfl (hb hby at_226)) ?_
          refine Goes.go (fun t => XS.istore X47.here hx rfl (hb hby at_227) rfl (l' := (own_L p0 p1 p2 p3 p4 p5 (.val (.int (p0 &&& (7 : Int32)))) (.val (.ref w_ELEMENT)) (.val nv) (.val (.int (p1 &&& (3 : Int32)))) (.val (.ref x41)) (.val (.int (p2 &&& (3 : Int32)))) (.val (.ref tt)) (.val (.int (1 : Int32))))) rfl) ?_
          refine Goes.go (fun t => XS.goto X47.here hx rfl (pc0 := 229) (pc' := 262) rfl (hb hby at_229) (by decide) (by decide)) ?_
          refine Goes.go (fun t => XS.aload X47.here hx rfl (hb hby at_262) rfl rfl ) ?_
          show Goes p e below _ (T47.setTop (mkF m 264 (own_L p0 p1 p2 p3 p4 p5 (.val (.int (p0 &&& (7 : Int32)))) (.val (.ref w_ELEMENT)) (.val nv) (.val (.int (p1 &&& (3 : Int32)))) (.val (.ref x41)) (.val (.int (p2 &&& (3 : Int32)))) (.val (.ref tt)) (.val (.int (1 : Int32)))) [(.ref tt)]))
          obtain ⟨cq48, kq48, q48a, q48b, q48c⟩ := isOf hZ rfl E_tt_47
          obtain ⟨_, _, ⟨T48, L48, k48, n48⟩, -, X48, ⟨Lc48, hQ48, l48, y48, z48⟩, st48⟩ := X47.virtualBack hx (y := (⟨oNT, "listedByTree", "()Z"⟩ : MethodName)) (z := (⟨oNT, "listedByTree", "()Z"⟩ : MethodName)) hown (mvT hZ (own_h hw 76 rfl)) (mvT hZ (own_h hw 77 rfl)) (notFace_of_selects (args := #[]) (mvT hZ (own_h hw 79 rfl))) (mvT hZ (own_h hw 79 rfl)) (mvT hZ (own_h hw 78 rfl)) (by decide) (backOf (W := 0) (rmLA l Z a0 hw [] tt w_ELEMENT q T47.heap n0 Z47 Fk47 Fq47) hZ (own_h hw 80 rfl) (own_h hw 50 rfl) (by decide) (by decide)) q48a q48c (g := (mkF m 264 (own_L p0 p1 p2 p3 p4 p5 (.val (.int (p0 &&& (7 : Int32)))) (.val (.ref w_ELEMENT)) (.val nv) (.val (.int (p1 &&& (3 : Int32)))) (.val (.ref x41)) (.val (.int (p2 &&& (3 : Int32)))) (.val (.ref tt)) (.val (.int (1 : Int32)))) [(.ref tt)])) rfl (by rw [hml]; rfl) (Steps.refl _) (argsL := []) (rest := []) (lenOf pd0_3 rfl) rfl (by show 2 * 0 + _ ≤ _; exact Nat.le_of_eq rfl) (hb hby at_264) (fun _ _ => ⟨rfl, rfl, (by decide : 26 + 0 ≤ _), (by decide : 331 + 0 ≤ _)⟩)
          dsimp only [Pt.U, Pt.locs, Pt.cells, Pt.slots] at X48 l48 y48 z48 st48 hQ48
          subst l48 y48 z48
          obtain ⟨rfl, N48q, e48q⟩ := hQ48
          have N48 := Fr.app N47 N48q
          refine Goes.via st48 ?_
          show Goes p e below _ (T48.setTop (mkF m 267 (own_L p0 p1 p2 p3 p4 p5 (.val (.int (p0 &&& (7 : Int32)))) (.val (.ref w_ELEMENT)) (.val nv) (.val (.int (p1 &&& (3 : Int32)))) (.val (.ref x41)) (.val (.int (p2 &&& (3 : Int32)))) (.val (.ref tt)) (.val (.int (1 : Int32)))) [(.int (1 : Int32))]))
          refine Goes.go (fun t => XS.iload X48.here hx rfl (hb hby at_267) rfl ) ?_
          show Goes p e below _ (T48.setTop (mkF m 269 (own_L p0 p1 p2 p3 p4 p5 (.val (.int (p0 &&& (7 : Int32)))) (.val (.ref w_ELEMENT)) (.val nv) (.val (.int (p1 &&& (3 : Int32)))) (.val (.ref x41)) (.val (.int (p2 &&& (3 : Int32)))) (.val (.ref tt)) (.val (.int (1 : Int32)))) [(.int (1 : Int32)), (.int (1 : Int32))]))
          refine Goes.go (fun t => XS.icmpNo X48.here hx rfl (hb hby at_269) rfl (Jvm.Free.XT.ii_ne_f (by decide))) ?_
          show Goes p e below _ (T48.setTop (mkF m 272 (own_L p0 p1 p2 p3 p4 p5 (.val (.int (p0 &&& (7 : Int32)))) (.val (.ref w_ELEMENT)) (.val nv) (.val (.int (p1 &&& (3 : Int32)))) (.val (.ref x41)) (.val (.int (p2 &&& (3 : Int32)))) (.val (.ref tt)) (.val (.int (1 : Int32)))) []))
          refine Goes.go (fun t => XS.iconst X48.here hx rfl (hb hby at_272)) ?_
          refine Goes.go (fun t => XS.goto X48.here hx rfl (pc0 := 273) (pc' := 277) rfl (hb hby at_273) (by decide) (by decide)) ?_
          show Goes p e below _ (T48.setTop (mkF m 277 (own_L p0 p1 p2 p3 p4 p5 (.val (.int (p0 &&& (7 : Int32)))) (.val (.ref w_ELEMENT)) (.val nv) (.val (.int (p1 &&& (3 : Int32)))) (.val (.ref x41)) (.val (.int (p2 &&& (3 : Int32)))) (.val (.ref tt)) (.val (.int (1 : Int32)))) [(.int (1 : Int32))]))
          exact Goes.outW X48 hS (by rw [e48q]; exact hk) (fun h => by rw [Bd.returns] at h; cases h) Bd.notSynchronized (fun fs hr => retN X48 hx (t := .boolean) Bd.returns (by simp) (hb hby at_277) hr) ⟨rfl, N48⟩ (by rw [hh, e48q]; exact CR47.trans (CHv.at X48 hZ (own_ew hw) CH47)) (by decide) (by decide)
        · rcases hsel with ⟨rfl, hsz⟩ | ⟨xn, rfl, hsz⟩
          · show Goes p e below _ (T44.setTop (mkF m 205 (own_L p0 p1 p2 p3 p4 p5 (.val (.int (p0 &&& (7 : Int32)))) (.val .null) (.val .null) (.val (.int (p1 &&& (3 : Int32)))) (.val (.ref x41)) (.val (.int (p2 &&& (3 : Int32)))) (.val (.ref c34)) .unset) []))
            have NS2 := NSv.ext B44
            have V2 := V.ext B44
            have SE2 := SE.ext B44
            have LN2 : own_lnv Z T44.heap (.ref x41) := Or.inr ⟨_, _, rfl, Sx44, (Or.inr ⟨_, _, rfl, hch35, hch38⟩)⟩
            obtain ⟨T49, h49, X49, e49, E49, A49, D49, -, st49⟩ := newO XL45 hx hZ hown (own_h hw 48 rfl) (own_h hw 49 rfl) (own_h hw 50 rfl) rfl (g := (mkF m 205 (own_L p0 p1 p2 p3 p4 p5 (.val (.int (p0 &&& (7 : Int32)))) (.val .null) (.val .null) (.val (.int (p1 &&& (3 : Int32)))) (.val (.ref x41)) (.val (.int (p2 &&& (3 : Int32)))) (.val (.ref c34)) .unset) [])) rfl (hb hby at_205) (by decide) (by decide)
            obtain ⟨tt, gq_tt⟩ : ∃ z, z = T44.heap.size := ⟨_, rfl⟩
            rw [← gq_tt] at A49 D49 st49
            have g_tt : n0 ≤ tt := Nat.le_trans Z44 (Nat.le_of_eq gq_tt.symm)
            have CQ49 := CHr.ext E49 CH44
            have CH49 := CQ49.1
            have CR49 := CR44.trans CQ49
            have hk := Nat.le_trans hk E49.1
            have Z49 : n0 ≤ h49.size := Nat.le_trans Z44 E49.1
            have F_kind_tt_49 : Fld Z h49 tt oNT "kind" "Lcom/example/thames/thames/model/NodeKind;" .null := D49 (Or.inr (own_h hw 59 rfl)) (ty := (.object oNK)) (by decide)
            have F_namespaceUri_tt_49 : Fld Z h49 tt oNT "namespaceUri" "Ljava/lang/String;" .null := D49 (Or.inr (own_h hw 61 rfl)) (ty := (.object "java/lang/String")) (by decide)
            have F_localName_tt_49 : Fld Z h49 tt oNT "localName" "Ljava/lang/String;" .null := D49 (Or.inr (own_h hw 63 rfl)) (ty := (.object "java/lang/String")) (by decide)
            have F_type_tt_49 : Fld Z h49 tt oNT "type" "Lcom/example/thames/thames/model/SchemaType;" .null := D49 (Or.inr (own_h hw 65 rfl)) (ty := (.object "com/example/thames/thames/model/SchemaType")) (by decide)
            have F_elementTest_tt_49 : Fld Z h49 tt oNT "elementTest" "Lcom/example/thames/thames/engine/NodeTest;" .null := D49 (Or.inr (own_h hw 67 rfl)) (ty := (.object oNT)) (by decide)
            have F_elementQuery_tt_49 : Fld Z h49 tt oNT "elementQuery" "Lcom/example/thames/thames/model/ElementQuery;" .null := D49 (Or.inr (own_h hw 75 rfl)) (ty := (.object oEQ)) (by decide)
            refine Goes.go st49 ?_
            have gb_tt : T44.heap.size ≤ tt := Nat.le_of_eq gq_tt.symm
            show Goes p e below _ (T49.setTop (mkF m 208 (own_L p0 p1 p2 p3 p4 p5 (.val (.int (p0 &&& (7 : Int32)))) (.val .null) (.val .null) (.val (.int (p1 &&& (3 : Int32)))) (.val (.ref x41)) (.val (.int (p2 &&& (3 : Int32)))) (.val (.ref c34)) .unset) [(.ref tt)]))
            refine Goes.go (fun t => XS.dup X49.here hx rfl (hb hby at_208) rfl rfl) ?_
            refine Goes.go (fun t => XS.aload X49.here hx rfl (hb hby at_209) rfl rfl ) ?_
            refine Goes.go (fun t => XS.aload X49.here hx rfl (hb hby at_211) rfl rfl ) ?_
            refine Goes.go (fun t => XS.aload X49.here hx rfl (hb hby at_213) rfl rfl ) ?_
            show Goes p e below _ (T49.setTop (mkF m 215 (own_L p0 p1 p2 p3 p4 p5 (.val (.int (p0 &&& (7 : Int32)))) (.val .null) (.val .null) (.val (.int (p1 &&& (3 : Int32)))) (.val (.ref x41)) (.val (.int (p2 &&& (3 : Int32)))) (.val (.ref c34)) .unset) [(.ref x41), .null, .null, (.ref tt), (.ref tt)]))
            obtain ⟨_, _, ⟨T50, L50, k50, n50⟩, -, X50, ⟨Lc50, hQ50, l50, y50, z50⟩, st50⟩ := X49.specialBack hx (y := (⟨oNT, "<init>", "(Lcom/example/thames/thames/model/NodeKind;Ljava/lang/String;Ljava/lang/String;)V"⟩ : MethodName)) rfl hown (mvT hZ (own_h hw 51 rfl)) (mvT hZ (own_h hw 52 rfl)) (mvT hZ (own_h hw 53 rfl)) (by decide) (backOf (W := 1) (rmTN3 l Z a0 hw [] tt .null (.ref x41) w_ELEMENT T44.heap h49 n0 Z49 NS2.isref LN2.isref E49 gb_tt g_tt SE2 A49 F_kind_tt_49 F_namespaceUri_tt_49 F_localName_tt_49 F_type_tt_49 F_elementTest_tt_49 F_elementQuery_tt_49) hZ (own_h hw 53 rfl) (own_h hw 50 rfl) (by decide) (by decide)) (g := (mkF m 215 (own_L p0 p1 p2 p3 p4 p5 (.val (.int (p0 &&& (7 : Int32)))) (.val .null) (.val .null) (.val (.int (p1 &&& (3 : Int32)))) (.val (.ref x41)) (.val (.int (p2 &&& (3 : Int32)))) (.val (.ref c34)) .unset) [(.ref x41), .null, .null, (.ref tt), (.ref tt)])) rfl (by rw [hml]; rfl) (Steps.refl _) (a := tt) (argsL := [.null, .null, (.ref x41)]) (rest := [(.ref tt)]) (lenOf pd0_2 rfl) rfl (by show 2 * 0 + _ ≤ _; exact Nat.le_of_eq rfl) (hb hby at_215) (fun _ _ => ⟨rfl, e49, (by decide : 12 + 0 ≤ _), (by decide : 54 + 0 ≤ _)⟩)
            dsimp only [Pt.U, Pt.locs, Pt.cells, Pt.slots] at X50 l50 y50 z50 st50 hQ50
            subst l50 y50 z50
            obtain ⟨rfl, N50q, K50, Fkind50, FnamespaceUri50, FlocalName50, Ftype50, FelementTest50, FelementQuery50⟩ := hQ50
            have N50 := Fr.app NL45 N50q
            refine Goes.via st50 ?_
            have CQ50 := CHr.keep K50 (sfS (Safe.exa hZ.alike A49 (by decide) (by decide)) sf0) CH49
            have CH50 := CQ50.1
            have CR50 := CR49.trans CQ50
            have hk := Nat.le_trans hk K50.1
            have Z50 : n0 ≤ T50.heap.size := Nat.le_trans Z49 K50.1
            have E_tt_50 : Exa Z T50.heap tt oNT := A49.keep K50
            show Goes p e below _ (T50.setTop (mkF m 218 (own_L p0 p1 p2 p3 p4 p5 (.val (.int (p0 &&& (7 : Int32)))) (.val .null) (.val .null) (.val (.int (p1 &&& (3 : Int32)))) (.val (.ref x41)) (.val (.int (p2 &&& (3 : Int32)))) (.val (.ref c34)) .unset) [(.ref tt)]))
            refine Goes.go (fun t => XS.astore X50.here hx rfl (hb hby at_218) rfl rfl (l' := (own_L p0 p1 p2 p3 p4 p5 (.val (.int (p0 &&& (7 : Int32)))) (.val .null) (.val .null) (.val (.int (p1 &&& (3 : Int32)))) (.val (.ref x41)) (.val (.int (p2 &&& (3 : Int32)))) (.val (.ref tt)) .unset)) rfl) ?_
            refine Goes.go (fun t => XS.iload X50.here hx rfl (hb hby at_220) rfl ) ?_
            refine Goes.go (fun t => XS.iconst X50.here hx rfl (hb hby at_222)) ?_
            show Goes p e below _ (T50.setTop (mkF m 223 (own_L p0 p1 p2 p3 p4 p5 (.val (.int (p0 &&& (7 : Int32)))) (.val .null) (.val .null) (.val (.int (p1 &&& (3 : Int32)))) (.val (.ref x41)) (.val (.int (p2 &&& (3 : Int32)))) (.val (.ref tt)) .unset) [(.int (1 : Int32)), (.int (p0 &&& (7 : Int32)))]))
            refine Goes.go (fun t => XS.icmpYes X50.here hx rfl (pc0 := 223) (pc' := 232) rfl (hb hby at_223) rfl (Jvm.Free.XT.ii_ne_t (by rw [hk7]; decide)) (by decide) (by decide)) ?_
            show Goes p e below _ (T50.setTop (mkF m 232 (own_L p0 p1 p2 p3 p4 p5 (.val (.int (p0 &&& (7 : Int32)))) (.val .null) (.val .null) (.val (.int (p1 &&& (3 : Int32)))) (.val (.ref x41)) (.val (.int (p2 &&& (3 : Int32)))) (.val (.ref tt)) .unset) []))
            refine Goes.go (fun t => XS.iload X50.here hx rfl (hb hby at_232) rfl ) ?_
            refine Goes.go (fun t => XS.bipush X50.here hx rfl (hb hby at_234)) ?_
            show Goes p e below _ (T50.setTop (mkF m 236 (own_L p0 p1 p2 p3 p4 p5 (.val (.int (p0 &&& (7 : Int32)))) (.val .null) (.val .null) (.val (.int (p1 &&& (3 : Int32)))) (.val (.ref x41)) (.val (.int (p2 &&& (3 : Int32)))) (.val (.ref tt)) .unset) [(.int (7 : Int32)), (.int (p0 &&& (7 : Int32)))]))
            refine Goes.go (fun t => XS.icmpNo X50.here hx rfl (hb hby at_236) rfl (Jvm.Free.XT.ii_ne_f hk7)) ?_
            show Goes p e below _ (T50.setTop (mkF m 239 (own_L p0 p1 p2 p3 p4 p5 (.val (.int (p0 &&& (7 : Int32)))) (.val .null) (.val .null) (.val (.int (p1 &&& (3 : Int32)))) (.val (.ref x41)) (.val (.int (p2 &&& (3 : Int32)))) (.val (.ref tt)) .unset) []))
            refine Goes.go (fun t => XS.iload X50.here hx rfl (hb hby at_239) rfl ) ?_
            show Goes p e below _ (T50.setTop (mkF m 241 (own_L p0 p1 p2 p3 p4 p5 (.val (.int (p0 &&& (7 : Int32)))) (.val .null) (.val .null) (.val (.int (p1 &&& (3 : Int32)))) (.val (.ref x41)) (.val (.int (p2 &&& (3 : Int32)))) (.val (.ref tt)) .unset) [(.int (p1 &&& (3 : Int32)))]))
            refine Goes.go (fun t => XS.ifNo X50.here hx rfl (hb hby at_241) rfl (Jvm.Free.XT.i0_ne_f hsz)) ?_
            show Goes p e below _ (T50.setTop (mkF m 244 (own_L p0 p1 p2 p3 p4 p5 (.val (.int (p0 &&& (7 : Int32)))) (.val .null) (.val .null) (.val (.int (p1 &&& (3 : Int32)))) (.val (.ref x41)) (.val (.int (p2 &&& (3 : Int32)))) (.val (.ref tt)) .unset) []))
            refine Goes.go (fun t => XS.iload X50.here hx rfl (hb hby at_244) rfl ) ?_
            show Goes p e below _ (T50.setTop (mkF m 246 (own_L p0 p1 p2 p3 p4 p5 (.val (.int (p0 &&& (7 : Int32)))) (.val .null) (.val .null) (.val (.int (p1 &&& (3 : Int32)))) (.val (.ref x41)) (.val (.int (p2 &&& (3 : Int32)))) (.val (.ref tt)) .unset) [(.int (p2 &&& (3 : Int32)))]))
            refine Goes.go (fun t => XS.ifYes X50.here hx rfl (pc0 := 246) (pc' := 253) rfl (hb hby at_246) rfl (Jvm.Free.XT.i0_ne_t (fun e => hc162 (by rw [e]; decide))) (by decide) (by decide)) ?_
            show Goes p e below _ (T50.setTop (mkF m 253 (own_L p0 p1 p2 p3 p4 p5 (.val (.int (p0 &&& (7 : Int32)))) (.val .null) (.val .null) (.val (.int (p1 &&& (3 : Int32)))) (.val (.ref x41)) (.val (.int (p2 &&& (3 : Int32)))) (.val (.ref tt)) .unset) []))
            refine Goes.go (fun t => XS.iconst X50.here hx rfl (hb hby at_253)) ?_
            refine Goes.go (fun t => XS.istore X50.here hx rfl (hb hby at_254) rfl (l' := (own_L p0 p1 p2 p3 p4 p5 (.val (.int (p0 &&& (7 : Int32)))) (.val .null) (.val .null) (.val (.int (p1 &&& (3 : Int32)))) (.val (.ref x41)) (.val (.int (p2 &&& (3 : Int32)))) (.val (.ref tt)) (.val (.int (0 : Int32))))) rfl) ?_
            refine Goes.go (fun t => XS.goto X50.here hx rfl (pc0 := 256) (pc' := 262) rfl (hb hby at_256) (by decide) (by decide)) ?_
            refine Goes.go (fun t => XS.aload X50.here hx rfl (hb hby at_262) rfl rfl ) ?_
            show Goes p e below _ (T50.setTop (mkF m 264 (own_L p0 p1 p2 p3 p4 p5 (.val (.int (p0 &&& (7 : Int32)))) (.val .null) (.val .null) (.val (.int (p1 &&& (3 : Int32)))) (.val (.ref x41)) (.val (.int (p2 &&& (3 : Int32)))) (.val (.ref tt)) (.val (.int (0 : Int32)))) [(.ref tt)]))
            obtain ⟨cq51, kq51, q51a, q51b, q51c⟩ := isOf hZ rfl E_tt_50
            obtain ⟨_, _, ⟨T51, L51, k51, n51⟩, -, X51, ⟨Lc51, hQ51, l51, y51, z51⟩, st51⟩ := X50.virtualBack hx (y := (⟨oNT, "listedByTree", "()Z"⟩ : MethodName)) (z := (⟨oNT, "listedByTree", "()Z"⟩ : MethodName)) hown (mvT hZ (own_h hw 76 rfl)) (mvT hZ (own_h hw 77 rfl)) (notFace_of_selects (args := #[]) (mvT hZ (own_h hw 79 rfl))) (mvT hZ (own_h hw 79 rfl)) (mvT hZ (own_h hw 78 rfl)) (by decide) (backOf (W := 0) (rmLD l Z a0 hw [] tt x41 T50.heap n0 Z50 Fkind50 FnamespaceUri50 FlocalName50 FelementQuery50) hZ (own_h hw 80 rfl) (own_h hw 50 rfl) (by decide) (by decide)) q51a q51c (g := (mkF m 264 (own_L p0 p1 p2 p3 p4 p5 (.val (.int (p0 &&& (7 : Int32)))) (.val .null) (.val .null) (.val (.int (p1 &&& (3 : Int32)))) (.val (.ref x41)) (.val (.int (p2 &&& (3 : Int32)))) (.val (.ref tt)) (.val (.int (0 : Int32)))) [(.ref tt)])) rfl (by rw [hml]; rfl) (Steps.refl _) (argsL := []) (rest := []) (lenOf pd0_3 rfl) rfl (by show 2 * 0 + _ ≤ _; exact Nat.le_of_eq rfl) (hb hby at_264) (fun _ _ => ⟨rfl, rfl, (by decide : 12 + 0 ≤ _), (by decide : 54 + 0 ≤ _)⟩)
            dsimp only [Pt.U, Pt.locs, Pt.cells, Pt.slots] at X51 l51 y51 z51 st51 hQ51
            subst l51 y51 z51
            obtain ⟨rfl, N51q, e51q⟩ := hQ51
            have N51 := Fr.app N50 N51q
            refine Goes.via st51 ?_
            show Goes p e below _ (T51.setTop (mkF m 267 (own_L p0 p1 p2 p3 p4 p5 (.val (.int (p0 &&& (7 : Int32)))) (.val .null) (.val .null) (.val (.int (p1 &&& (3 : Int32)))) (.val (.ref x41)) (.val (.int (p2 &&& (3 : Int32)))) (.val (.ref tt)) (.val (.int (0 : Int32)))) [(.int (0 : Int32))]))
            refine Goes.go (fun t => XS.iload X51.here hx rfl (hb hby at_267) rfl ) ?_
            show Goes p e below _ (T51.setTop (mkF m 269 (own_L p0 p1 p2 p3 p4 p5 (.val (.int (p0 &&& (7 : Int32)))) (.val .null) (.val .null) (.val (.int (p1 &&& (3 : Int32)))) (.val (.ref x41)) (.val (.int (p2 &&& (3 : Int32)))) (.val (.ref tt)) (.val (.int (0 : Int32)))) [(.int (0 : Int32)), (.int (0 : Int32))]))
            refine Goes.go (fun t => XS.icmpNo X51.here hx rfl (hb hby at_269) rfl (Jvm.Free.XT.ii_ne_f (by decide))) ?_
            show Goes p e below _ (T51.setTop (mkF m 272 (own_L p0 p1 p2 p3 p4 p5 (.val (.int (p0 &&& (7 : Int32)))) (.val .null) (.val .null) (.val (.int (p1 &&& (3 : Int32)))) (.val (.ref x41)) (.val (.int (p2 &&& (3 : Int32)))) (.val (.ref tt)) (.val (.int (0 : Int32)))) []))
            refine Goes.go (fun t => XS.iconst X51.here hx rfl (hb hby at_272)) ?_
            refine Goes.go (fun t => XS.goto X51.here hx rfl (pc0 := 273) (pc' := 277) rfl (hb hby at_273) (by decide) (by decide)) ?_
            show Goes p e below _ (T51.setTop (mkF m 277 (own_L p0 p1 p2 p3 p4 p5 (.val (.int (p0 &&& (7 : Int32)))) (.val .null) (.val .null) (.val (.int (p1 &&& (3 : Int32)))) (.val (.ref x41)) (.val (.int (p2 &&& (3 : Int32)))) (.val (.ref tt)) (.val (.int (0 : Int32)))) [(.int (1 : Int32))]))
            exact Goes.outW X51 hS (by rw [e51q]; exact hk) (fun h => by rw [Bd.returns] at h; cases h) Bd.notSynchronized (fun fs hr => retN X51 hx (t := .boolean) Bd.returns (by simp) (hb hby at_277) hr) ⟨rfl, N51⟩ (by rw [hh, e51q]; exact CR50.trans (CHv.at X51 hZ (own_ew hw) CH50)) (by decide) (by decide)
          · show Goes p e below _ (T44.setTop (mkF m 205 (own_L p0 p1 p2 p3 p4 p5 (.val (.int (p0 &&& (7 : Int32)))) (.val .null) (.val (.ref xn)) (.val (.int (p1 &&& (3 : Int32)))) (.val (.ref x41)) (.val (.int (p2 &&& (3 : Int32)))) (.val (.ref c34)) .unset) []))
            have NS2 := NSv.ext B44
            have V2 := V.ext B44
            have SE2 := SE.ext B44
            have LN2 : own_lnv Z T44.heap (.ref x41) := Or.inr ⟨_, _, rfl, Sx44, (Or.inr ⟨_, _, rfl, hch35, hch38⟩)⟩
            obtain ⟨T52, h52, X52, e52, E52, A52, D52, -, st52⟩ := newO XL45 hx hZ hown (own_h hw 48 rfl) (own_h hw 49 rfl) (own_h hw 50 rfl) rfl (g := (mkF m 205 (own_L p0 p1 p2 p3 p4 p5 (.val (.int (p0 &&& (7 : Int32)))) (.val .null) (.val (.ref xn)) (.val (.int (p1 &&& (3 : Int32)))) (.val (.ref x41)) (.val (.int (p2 &&& (3 : Int32)))) (.val (.ref c34)) .unset) [])) rfl (hb hby at_205) (by decide) (by decide)
            obtain ⟨tt, gq_tt⟩ : ∃ z, z = T44.heap.size := ⟨_, rfl⟩
            rw [← gq_tt] at A52 D52 st52
            have g_tt : n0 ≤ tt := Nat.le_trans Z44 (Nat.le_of_eq gq_tt.symm)
            have CQ52 := CHr.ext E52 CH44
            have CH52 := CQ52.1
            have CR52 := CR44.trans CQ52
            have hk := Nat.le_trans hk E52.1
            have Z52 : n0 ≤ h52.size := Nat.le_trans Z44 E52.1
            have F_kind_tt_52 : Fld Z h52 tt oNT "kind" "Lcom/example/thames/thames/model/NodeKind;" .null := D52 (Or.inr (own_h hw 59 rfl)) (ty := (.object oNK)) (by decide)
            have F_namespaceUri_tt_52 : Fld Z h52 tt oNT "namespaceUri" "Ljava/lang/String;" .null := D52 (Or.inr (own_h hw 61 rfl)) (ty := (.object "java/lang/String")) (by decide)
            have F_localName_tt_52 : Fld Z h52 tt oNT "localName" "Ljava/lang/String;" .null := D52 (Or.inr (own_h hw 63 rfl)) (ty := (.object "java/lang/String")) (by decide)
            have F_type_tt_52 : Fld Z h52 tt oNT "type" "Lcom/example/thames/thames/model/SchemaType;" .null := D52 (Or.inr (own_h hw 65 rfl)) (ty := (.object "com/example/thames/thames/model/SchemaType")) (by decide)
            have F_elementTest_tt_52 : Fld Z h52 tt oNT "elementTest" "Lcom/example/thames/thames/engine/NodeTest;" .null := D52 (Or.inr (own_h hw 67 rfl)) (ty := (.object oNT)) (by decide)
            have F_elementQuery_tt_52 : Fld Z h52 tt oNT "elementQuery" "Lcom/example/thames/thames/model/ElementQuery;" .null := D52 (Or.inr (own_h hw 75 rfl)) (ty := (.object oEQ)) (by decide)
            refine Goes.go st52 ?_
            have gb_tt : T44.heap.size ≤ tt := Nat.le_of_eq gq_tt.symm
            show Goes p e below _ (T52.setTop (mkF m 208 (own_L p0 p1 p2 p3 p4 p5 (.val (.int (p0 &&& (7 : Int32)))) (.val .null) (.val (.ref xn)) (.val (.int (p1 &&& (3 : Int32)))) (.val (.ref x41)) (.val (.int (p2 &&& (3 : Int32)))) (.val (.ref c34)) .unset) [(.ref tt)]))
            refine Goes.go (fun t => XS.dup X52.here hx rfl (hb hby at_208) rfl rfl) ?_
            refine Goes.go (fun t => XS.aload X52.here hx rfl (hb hby at_209) rfl rfl ) ?_
            refine Goes.go (fun t => XS.aload X52.here hx rfl (hb hby at_211) rfl rfl ) ?_
            refine Goes.go (fun t => XS.aload X52.here hx rfl (hb hby at_213) rfl rfl ) ?_
            show Goes p e below _ (T52.setTop (mkF m 215 (own_L p0 p1 p2 p3 p4 p5 (.val (.int (p0 &&& (7 : Int32)))) (.val .null) (.val (.ref xn)) (.val (.int (p1 &&& (3 : Int32)))) (.val (.ref x41)) (.val (.int (p2 &&& (3 : Int32)))) (.val (.ref c34)) .unset) [(.ref x41), (.ref xn), .null, (.ref tt), (.ref tt)]))
            obtain ⟨_, _, ⟨T53, L53, k53, n53⟩, -, X53, ⟨Lc53, hQ53, l53, y53, z53⟩, st53⟩ := X52.specialBack hx (y := (⟨oNT, "<init>", "(Lcom/example/thames/thames/model/NodeKind;Ljava/lang/String;Ljava/lang/String;)V"⟩ : MethodName)) rfl hown (mvT hZ (own_h hw 51 rfl)) (mvT hZ (own_h hw 52 rfl)) (mvT hZ (own_h hw 53 rfl)) (by decide) (backOf (W := 1) (rmTN3 l Z a0 hw [] tt (.ref xn) (.ref x41) w_ELEMENT T44.heap h52 n0 Z52 NS2.isref LN2.isref E52 gb_tt g_tt SE2 A52 F_kind_tt_52 F_namespaceUri_tt_52 F_localName_tt_52 F_type_tt_52 F_elementTest_tt_52 F_elementQuery_tt_52) hZ (own_h hw 53 rfl) (own_h hw 50 rfl) (by decide) (by decide)) (g := (mkF m 215 (own_L p0 p1 p2 p3 p4 p5 (.val (.int (p0 &&& (7 : Int32)))) (.val .null) (.val (.ref xn)) (.val (.int (p1 &&& (3 : Int32)))) (.val (.ref x41)) (.val (.int (p2 &&& (3 : Int32)))) (.val (.ref c34)) .unset) [(.ref x41), (.ref xn), .null, (.ref tt), (.ref tt)])) rfl (by rw [hml]; rfl) (Steps.refl _) (a := tt) (argsL := [.null, (.ref xn), (.ref x41)]) (rest := [(.ref tt)]) (lenOf pd0_2 rfl) rfl (by show 2 * 0 + _ ≤ _; exact Nat.le_of_eq rfl) (hb hby at_215) (fun _ _ => ⟨rfl, e52, (by decide : 12 + 0 ≤ _), (by decide : 54 + 0 ≤ _)⟩)
            dsimp only [Pt.U, Pt.locs, Pt.cells, Pt.slots] at X53 l53 y53 z53 st53 hQ53
            subst l53 y53 z53
            obtain ⟨rfl, N53q, K53, Fkind53, FnamespaceUri53, FlocalName53, Ftype53, FelementTest53, FelementQuery53⟩ := hQ53
            have N53 := Fr.app NL45 N53q
            refine Goes.via st53 ?_
            have CQ53 := CHr.keep K53 (sfS (Safe.exa hZ.alike A52 (by decide) (by decide)) sf0) CH52
            have CH53 := CQ53.1
            have CR53 := CR52.trans CQ53
            have hk := Nat.le_trans hk K53.1
            have Z53 : n0 ≤ T53.heap.size := Nat.le_trans Z52 K53.1
            have E_tt_53 : Exa Z T53.heap tt oNT := A52.keep K53
            show Goes p e below _ (T53.setTop (mkF m 218 (own_L p0 p1 p2 p3 p4 p5 (.val (.int (p0 &&& (7 : Int32)))) (.val .null) (.val (.ref xn)) (.val (.int (p1 &&& (3 : Int32)))) (.val (.ref x41)) (.val (.int (p2 &&& (3 : Int32)))) (.val (.ref c34)) .unset) [(.ref tt)]))
            refine Goes.go (fun t => XS.astore X53.here hx rfl (hb hby at_218) rfl rfl (l' := (own_L p0 p1 p2 p3 p4 p5 (.val (.int (p0 &&& (7 : Int32)))) (.val .null) (.val (.ref xn)) (.val (.int (p1 &&& (3 : Int32)))) (.val (.ref x41)) (.val (.int (p2 &&& (3 : Int32)))) (.val (.ref tt)) .unset)) rfl) ?_
            refine Goes.go (fun t => XS.iload X53.here hx rfl (hb hby at_220) rfl ) ?_
            refine Goes.go (fun t => XS.iconst X53.here hx rfl (hb hby at_222)) ?_
            show Goes p e below _ (T53.setTop (mkF m 223 (own_L p0 p1 p2 p3 p4 p5 (.val (.int (p0 &&& (7 : Int32)))) (.val .null) (.val (.ref xn)) (.val (.int (p1 &&& (3 : Int32)))) (.val (.ref x41)) (.val (.int (p2 &&& (3 : Int32)))) (.val (.ref tt)) .unset) [(.int (1 : Int32)), (.int (p0 &&& (7 : Int32)))]))
            refine Goes.go (fun t => XS.icmpYes X53.here hx rfl (pc0 := 223) (pc' := 232) rfl (hb hby at_223) rfl (Jvm.Free.XT.ii_ne_t (by rw [hk7]; decide)) (by decide) (by decide)) ?_
            show Goes p e below _ (T53.setTop (mkF m 232 (own_L p0 p1 p2 p3 p4 p5 (.val (.int (p0 &&& (7 : Int32)))) (.val .null) (.val (.ref xn)) (.val (.int (p1 &&& (3 : Int32)))) (.val (.ref x41)) (.val (.int (p2 &&& (3 : Int32)))) (.val (.ref tt)) .unset) []))
            refine Goes.go (fun t => XS.iload X53.here hx rfl (hb hby at_232) rfl ) ?_
            refine Goes.go (fun t => XS.bipush X53.here hx rfl (hb hby at_234)) ?_
            show Goes p e below _ (T53.setTop (mkF m 236 (own_L p0 p1 p2 p3 p4 p5 (.val (.int (p0 &&& (7 : Int32)))) (.val .null) (.val (.ref xn)) (.val (.int (p1 &&& (3 : Int32)))) (.val (.ref x41)) (.val (.int (p2 &&& (3 : Int32)))) (.val (.ref tt)) .unset) [(.int (7 : Int32)), (.int (p0 &&& (7 : Int32)))]))
            refine Goes.go (fun t => XS.icmpNo X53.here hx rfl (hb hby at_236) rfl (Jvm.Free.XT.ii_ne_f hk7)) ?_
            show Goes p e below _ (T53.setTop (mkF m 239 (own_L p0 p1 p2 p3 p4 p5 (.val (.int (p0 &&& (7 : Int32)))) (.val .null) (.val (.ref xn)) (.val (.int (p1 &&& (3 : Int32)))) (.val (.ref x41)) (.val (.int (p2 &&& (3 : Int32)))) (.val (.ref tt)) .unset) []))
            refine Goes.go (fun t => XS.iload X53.here hx rfl (hb hby at_239) rfl ) ?_
            show Goes p e below _ (T53.setTop (mkF m 241 (own_L p0 p1 p2 p3 p4 p5 (.val (.int (p0 &&& (7 : Int32)))) (.val .null) (.val (.ref xn)) (.val (.int (p1 &&& (3 : Int32)))) (.val (.ref x41)) (.val (.int (p2 &&& (3 : Int32)))) (.val (.ref tt)) .unset) [(.int (p1 &&& (3 : Int32)))]))
            refine Goes.go (fun t => XS.ifYes X53.here hx rfl (pc0 := 241) (pc' := 253) rfl (hb hby at_241) rfl (Jvm.Free.XT.i0_ne_t hsz) (by decide) (by decide)) ?_
            show Goes p e below _ (T53.setTop (mkF m 253 (own_L p0 p1 p2 p3 p4 p5 (.val (.int (p0 &&& (7 : Int32)))) (.val .null) (.val (.ref xn)) (.val (.int (p1 &&& (3 : Int32)))) (.val (.ref x41)) (.val (.int (p2 &&& (3 : Int32)))) (.val (.ref tt)) .unset) []))
            refine Goes.go (fun t => XS.iconst X53.here hx rfl (hb hby at_253)) ?_
            refine Goes.go (fun t => XS.istore X53.here hx rfl (hb hby at_254) rfl (l' := (own_L p0 p1 p2 p3 p4 p5 (.val (.int (p0 &&& (7 : Int32)))) (.val .null) (.val (.ref xn)) (.val (.int (p1 &&& (3 : Int32)))) (.val (.ref x41)) (.val (.int (p2 &&& (3 : Int32)))) (.val (.ref tt)) (.val (.int (0 : Int32))))) rfl) ?_
            refine Goes.go (fun t => XS.goto X53.here hx rfl (pc0 := 256) (pc' := 262) rfl (hb hby at_256) (by decide) (by decide)) ?_
            refine Goes.go (fun t => XS.aload X53.here hx rfl (hb hby at_262) rfl rfl ) ?_
            show Goes p e below _ (T53.setTop (mkF m 264 (own_L p0 p1 p2 p3 p4 p5 (.val (.int (p0 &&& (7 : Int32)))) (.val .null) (.val (.ref xn)) (.val (.int (p1 &&& (3 : Int32)))) (.val (.ref x41)) (.val (.int (p2 &&& (3 : Int32)))) (.val (.ref tt)) (.val (.int (0 : Int32)))) [(.ref tt)]))
            obtain ⟨cq54, kq54, q54a, q54b, q54c⟩ := isOf hZ rfl E_tt_53
            obtain ⟨_, _, ⟨T54, L54, k54, n54⟩, -, X54, ⟨Lc54, hQ54, l54, y54, z54⟩, st54⟩ := X53.virtualBack hx (y := (⟨oNT, "listedByTree", "()Z"⟩ : MethodName)) (z := (⟨oNT, "listedByTree", "()Z"⟩ : MethodName)) hown (mvT hZ (own_h hw 76 rfl)) (mvT hZ (own_h hw 77 rfl)) (notFace_of_selects (args := #[]) (mvT hZ (own_h hw 79 rfl))) (mvT hZ (own_h hw 79 rfl)) (mvT hZ (own_h hw 78 rfl)) (by decide) (backOf (W := 0) (rmLE l Z a0 hw [] tt xn T53.heap n0 Z53 Fkind53 FnamespaceUri53 FelementQuery53) hZ (own_h hw 80 rfl) (own_h hw 50 rfl) (by decide) (by decide)) q54a q54c (g := (mkF m 264 (own_L p0 p1 p2 p3 p4 p5 (.val (.int (p0 &&& (7 : Int32)))) (.val .null) (.val (.ref xn)) (.val (.int (p1 &&& (3 : Int32)))) (.val (.ref x41)) (.val (.int (p2 &&& (3 : Int32)))) (.val (.ref tt)) (.val (.int (0 : Int32)))) [(.ref tt)])) rfl (by rw [hml]; rfl) (Steps.refl _) (argsL := []) (rest := []) (lenOf pd0_3 rfl) rfl (by show 2 * 0 + _ ≤ _; exact Nat.le_of_eq rfl) (hb hby at_264) (fun _ _ => ⟨rfl, rfl, (by decide : 12 + 0 ≤ _), (by decide : 54 + 0 ≤ _)⟩)
            dsimp only [Pt.U, Pt.locs, Pt.cells, Pt.slots] at X54 l54 y54 z54 st54 hQ54
            subst l54 y54 z54
            obtain ⟨rfl, N54q, e54q⟩ := hQ54
            have N54 := Fr.app N53 N54q
            refine Goes.via st54 ?_
            show Goes p e below _ (T54.setTop (mkF m 267 (own_L p0 p1 p2 p3 p4 p5 (.val (.int (p0 &&& (7 : Int32)))) (.val .null) (.val (.ref xn)) (.val (.int (p1 &&& (3 : Int32)))) (.val (.ref x41)) (.val (.int (p2 &&& (3 : Int32)))) (.val (.ref tt)) (.val (.int (0 : Int32)))) [(.int (0 : Int32))]))
            refine Goes.go (fun t => XS.iload X54.here hx rfl (hb hby at_267) rfl ) ?_
            show Goes p e below _ (T54.setTop (mkF m 269 (own_L p0 p1 p2 p3 p4 p5 (.val (.int (p0 &&& (7 : Int32)))) (.val .null) (.val (.ref xn)) (.val (.int (p1 &&& (3 : Int32)))) (.val (.ref x41)) (.val (.int (p2 &&& (3 : Int32)))) (.val (.ref tt)) (.val (.int (0 : Int32)))) [(.int (0 : Int32)), (.int (0 : Int32))]))
            refine Goes.go (fun t => XS.icmpNo X54.here hx rfl (hb hby at_269) rfl (Jvm.Free.XT.ii_ne_f (by decide))) ?_
            show Goes p e below _ (T54.setTop (mkF m 272 (own_L p0 p1 p2 p3 p4 p5 (.val (.int (p0 &&& (7 : Int32)))) (.val .null) (.val (.ref xn)) (.val (.int (p1 &&& (3 : Int32)))) (.val (.ref x41)) (.val (.int (p2 &&& (3 : Int32)))) (.val (.ref tt)) (.val (.int (0 : Int32)))) []))
            refine Goes.go (fun t => XS.iconst X54.here hx rfl (hb hby at_272)) ?_
            refine Goes.go (fun t => XS.goto X54.here hx rfl (pc0 := 273) (pc' := 277) rfl (hb hby at_273) (by decide) (by decide)) ?_
            show Goes p e below _ (T54.setTop (mkF m 277 (own_L p0 p1 p2 p3 p4 p5 (.val (.int (p0 &&& (7 : Int32)))) (.val .null) (.val (.ref xn)) (.val (.int (p1 &&& (3 : Int32)))) (.val (.ref x41)) (.val (.int (p2 &&& (3 : Int32)))) (.val (.ref tt)) (.val (.int (0 : Int32)))) [(.int (1 : Int32))]))
            exact Goes.outW X54 hS (by rw [e54q]; exact hk) (fun h => by rw [Bd.returns] at h; cases h) Bd.notSynchronized (fun fs hr => retN X54 hx (t := .boolean) Bd.returns (by simp) (hb hby at_277) hr) ⟨rfl, N54⟩ (by rw [hh, e54q]; exact CR53.trans (CHv.at X54 hZ (own_ew hw) CH53)) (by decide) (by decide)
        · show Goes p e below _ (T44.setTop (mkF m 205 (own_L p0 p1 p2 p3 p4 p5 (.val (.int (p0 &&& (7 : Int32)))) (.val (.ref w)) (.val nv) (.val (.int (p1 &&& (3 : Int32)))) (.val (.ref x41)) (.val (.int (p2 &&& (3 : Int32)))) (.val (.ref c34)) .unset) []))
          have NS2 := NSv.ext B44
          have V2 := V.ext B44
          have SE2 := SE.ext B44
          have LN2 : own_lnv Z T44.heap (.ref x41) := Or.inr ⟨_, _, rfl, Sx44, (Or.inr ⟨_, _, rfl, hch35, hch38⟩)⟩
          obtain ⟨T55, h55, X55, e55, E55, A55, D55, -, st55⟩ := newO XL45 hx hZ hown (own_h hw 48 rfl) (own_h hw 49 rfl) (own_h hw 50 rfl) rfl (g := (mkF m 205 (own_L p0 p1 p2 p3 p4 p5 (.val (.int (p0 &&& (7 : Int32)))) (.val (.ref w)) (.val nv) (.val (.int (p1 &&& (3 : Int32)))) (.val (.ref x41)) (.val (.int (p2 &&& (3 : Int32)))) (.val (.ref c34)) .unset) [])) rfl (hb hby at_205) (by decide) (by decide)
          obtain ⟨tt, gq_tt⟩ : ∃ z, z = T44.heap.size := ⟨_, rfl⟩
          rw [← gq_tt] at A55 D55 st55
          have g_tt : n0 ≤ tt := Nat.le_trans Z44 (Nat.le_of_eq gq_tt.symm)
          have CQ55 := CHr.ext E55 CH44
          have CH55 := CQ55.1
          have CR55 := CR44.trans CQ55
          have hk := Nat.le_trans hk E55.1
          have Z55 : n0 ≤ h55.size := Nat.le_trans Z44 E55.1
          have F_kind_tt_55 : Fld Z h55 tt oNT "kind" "Lcom/example/thames/thames/model/NodeKind;" .null := D55 (Or.inr (own_h hw 59 rfl)) (ty := (.object oNK)) (by decide)
          have F_namespaceUri_tt_55 : Fld Z h55 tt oNT "namespaceUri" "Ljava/lang/String;" .null := D55 (Or.inr (own_h hw 61 rfl)) (ty := (.object "java/lang/String")) (by decide)
          have F_localName_tt_55 : Fld Z h55 tt oNT "localName" "Ljava/lang/String;" .null := D55 (Or.inr (own_h hw 63 rfl)) (ty := (.object "java/lang/String")) (by decide)
          have F_type_tt_55 : Fld Z h55 tt oNT "type" "Lcom/example/thames/thames/model/SchemaType;" .null := D55 (Or.inr (own_h hw 65 rfl)) (ty := (.object "com/example/thames/thames/model/SchemaType")) (by decide)
          have F_elementTest_tt_55 : Fld Z h55 tt oNT "elementTest" "Lcom/example/thames/thames/engine/NodeTest;" .null := D55 (Or.inr (own_h hw 67 rfl)) (ty := (.object oNT)) (by decide)
          have F_elementQuery_tt_55 : Fld Z h55 tt oNT "elementQuery" "Lcom/example/thames/thames/model/ElementQuery;" .null := D55 (Or.inr (own_h hw 75 rfl)) (ty := (.object oEQ)) (by decide)
          refine Goes.go st55 ?_
          have gb_tt : T44.heap.size ≤ tt := Nat.le_of_eq gq_tt.symm
          show Goes p e below _ (T55.setTop (mkF m 208 (own_L p0 p1 p2 p3 p4 p5 (.val (.int (p0 &&& (7 : Int32)))) (.val (.ref w)) (.val nv) (.val (.int (p1 &&& (3 : Int32)))) (.val (.ref x41)) (.val (.int (p2 &&& (3 : Int32)))) (.val (.ref c34)) .unset) [(.ref tt)]))
          refine Goes.go (fun t => XS.dup X55.here hx rfl (hb hby at_208) rfl rfl) ?_
          refine Goes.go (fun t => XS.aload X55.here hx rfl (hb hby at_209) rfl rfl ) ?_
          refine Goes.go (fun t => XS.aload X55.here hx rfl (hb hby at_211) rfl (by assumption) ) ?_
          refine Goes.go (fun t => XS.aload X55.here hx rfl (hb hby at_213) rfl rfl ) ?_
          show Goes p e below _ (T55.setTop (mkF m 215 (own_L p0 p1 p2 p3 p4 p5 (.val (.int (p0 &&& (7 : Int32)))) (.val (.ref w)) (.val nv) (.val (.int (p1 &&& (3 : Int32)))) (.val (.ref x41)) (.val (.int (p2 &&& (3 : Int32)))) (.val (.ref c34)) .unset) [(.ref x41), nv, (.ref w), (.ref tt), (.ref tt)]))
          obtain ⟨_, _, ⟨T56, L56, k56, n56⟩, -, X56, ⟨Lc56, hQ56, l56, y56, z56⟩, st56⟩ := X55.specialBack hx (y := (⟨oNT, "<init>", "(Lcom/example/thames/thames/model/NodeKind;Ljava/lang/String;Ljava/lang/String;)V"⟩ : MethodName)) rfl hown (mvT hZ (own_h hw 51 rfl)) (mvT hZ (own_h hw 52 rfl)) (mvT hZ (own_h hw 53 rfl)) (by decide) (backOf (W := 1) (rmTW3 l Z a0 hw [] tt w nv (.ref x41) w_ELEMENT T44.heap h55 n0 Z55 NS2.isref LN2.isref E55 gb_tt g_tt SE2 A55 F_kind_tt_55 F_namespaceUri_tt_55 F_localName_tt_55 F_type_tt_55 F_elementTest_tt_55 F_elementQuery_tt_55 hne) hZ (own_h hw 53 rfl) (own_h hw 50 rfl) (by decide) (by decide)) (g := (mkF m 215 (own_L p0 p1 p2 p3 p4 p5 (.val (.int (p0 &&& (7 : Int32)))) (.val (.ref w)) (.val nv) (.val (.int (p1 &&& (3 : Int32)))) (.val (.ref x41)) (.val (.int (p2 &&& (3 : Int32)))) (.val (.ref c34)) .unset) [(.ref x41), nv, (.ref w), (.ref tt), (.ref tt)])) rfl (by rw [hml]; rfl) (Steps.refl _) (a := tt) (argsL := [(.ref w), nv, (.ref x41)]) (rest := [(.ref tt)]) (lenOf pd0_2 rfl) rfl (by show 2 * 0 + _ ≤ _; exact Nat.le_of_eq rfl) (hb hby at_215) (fun _ _ => ⟨rfl, e55, (by decide : 12 + 0 ≤ _), (by decide : 54 + 0 ≤ _)⟩)
          dsimp only [Pt.U, Pt.locs, Pt.cells, Pt.slots] at X56 l56 y56 z56 st56 hQ56
          subst l56 y56 z56
          obtain ⟨rfl, N56q, K56, Fkind56, FnamespaceUri56, FlocalName56, Ftype56, FelementTest56, FelementQuery56⟩ := hQ56
          have N56 := Fr.app NL45 N56q
          refine Goes.via st56 ?_
          have CQ56 := CHr.keep K56 (sfS (Safe.exa hZ.alike A55 (by decide) (by decide)) sf0) CH55
          have CH56 := CQ56.1
          have CR56 := CR55.trans CQ56
          have hk := Nat.le_trans hk K56.1
          have Z56 : n0 ≤ T56.heap.size := Nat.le_trans Z55 K56.1
          have E_tt_56 : Exa Z T56.heap tt oNT := A55.keep K56
          show Goes p e below _ (T56.setTop (mkF m 218 (own_L p0 p1 p2 p3 p4 p5 (.val (.int (p0 &&& (7 : Int32)))) (.val (.ref w)) (.val nv) (.val (.int (p1 &&& (3 : Int32)))) (.val (.ref x41)) (.val (.int (p2 &&& (3 : Int32)))) (.val (.ref c34)) .unset) [(.ref tt)]))
          refine Goes.go (fun t => XS.astore X56.here hx rfl (hb hby at_218) rfl rfl (l' := (own_L p0 p1 p2 p3 p4 p5 (.val (.int (p0 &&& (7 : Int32)))) (.val (.ref w)) (.val nv) (.val (.int (p1 &&& (3 : Int32)))) (.val (.ref x41)) (.val (.int (p2 &&& (3 : Int32)))) (.val (.ref tt)) .unset)) rfl) ?_
          refine Goes.go (fun t => XS.iload X56.here hx rfl (hb hby at_220) rfl ) ?_
          refine Goes.go (fun t => XS.iconst X56.here hx rfl (hb hby at_222)) ?_
          show Goes p e below _ (T56.setTop (mkF m 223 (own_L p0 p1 p2 p3 p4 p5 (.val (.int (p0 &&& (7 : Int32)))) (.val (.ref w)) (.val nv) (.val (.int (p1 &&& (3 : Int32)))) (.val (.ref x41)) (.val (.int (p2 &&& (3 : Int32)))) (.val (.ref tt)) .unset) [(.int (1 : Int32)), (.int (p0 &&& (7 : Int32)))]))
          refine Goes.go (fun t => XS.icmpYes X56.here hx rfl (pc0 := 223) (pc' := 232) rfl (hb hby at_223) rfl (Jvm.Free.XT.ii_ne_t hn1) (by decide) (by decide)) ?_
          show Goes p e below _ (T56.setTop (mkF m 232 (own_L p0 p1 p2 p3 p4 p5 (.val (.int (p0 &&& (7 : Int32)))) (.val (.ref w)) (.val nv) (.val (.int (p1 &&& (3 : Int32)))) (.val (.ref x41)) (.val (.int (p2 &&& (3 : Int32)))) (.val (.ref tt)) .unset) []))
          refine Goes.go (fun t => XS.iload X56.here hx rfl (hb hby at_232) rfl ) ?_
          refine Goes.go (fun t => XS.bipush X56.here hx rfl (hb hby at_234)) ?_
          show Goes p e below _ (T56.setTop (mkF m 236 (own_L p0 p1 p2 p3 p4 p5 (.val (.int (p0 &&& (7 : Int32)))) (.val (.ref w)) (.val nv) (.val (.int (p1 &&& (3 : Int32)))) (.val (.ref x41)) (.val (.int (p2 &&& (3 : Int32)))) (.val (.ref tt)) .unset) [(.int (7 : Int32)), (.int (p0 &&& (7 : Int32)))]))
          refine Goes.go (fun t => XS.icmpYes X56.here hx rfl (pc0 := 236) (pc' := 259) rfl (hb hby at_236) rfl (Jvm.Free.XT.ii_ne_t hn7) (by decide) (by decide)) ?_
          show Goes p e below _ (T56.setTop (mkF m 259 (own_L p0 p1 p2 p3 p4 p5 (.val (.int (p0 &&& (7 : Int32)))) (.val (.ref w)) (.val nv) (.val (.int (p1 &&& (3 : Int32)))) (.val (.ref x41)) (.val (.int (p2 &&& (3 : Int32)))) (.val (.ref tt)) .unset) []))
          refine Goes.go (fun t => XS.iconst X56.here hx rfl (hb hby at_259)) ?_
          refine Goes.go (fun t => XS.istore X56.here hx rfl (hb hby at_260) rfl (l' := (own_L p0 p1 p2 p3 p4 p5 (.val (.int (p0 &&& (7 : Int32)))) (.val (.ref w)) (.val nv) (.val (.int (p1 &&& (3 : Int32)))) (.val (.ref x41)) (.val (.int (p2 &&& (3 : Int32)))) (.val (.ref tt)) (.val (.int (0 : Int32))))) rfl) ?_
          refine Goes.go (fun t => XS.aload X56.here hx rfl (hb hby at_262) rfl rfl ) ?_
          show Goes p e below _ (T56.setTop (mkF m 264 (own_L p0 p1 p2 p3 p4 p5 (.val (.int (p0 &&& (7 : Int32)))) (.val (.ref w)) (.val nv) (.val (.int (p1 &&& (3 : Int32)))) (.val (.ref x41)) (.val (.int (p2 &&& (3 : Int32)))) (.val (.ref tt)) (.val (.int (0 : Int32)))) [(.ref tt)]))
          obtain ⟨cq57, kq57, q57a, q57b, q57c⟩ := isOf hZ rfl E_tt_56
          obtain ⟨_, _, ⟨T57, L57, k57, n57⟩, -, X57, ⟨Lc57, hQ57, l57, y57, z57⟩, st57⟩ := X56.virtualBack hx (y := (⟨oNT, "listedByTree", "()Z"⟩ : MethodName)) (z := (⟨oNT, "listedByTree", "()Z"⟩ : MethodName)) hown (mvT hZ (own_h hw 76 rfl)) (mvT hZ (own_h hw 77 rfl)) (notFace_of_selects (args := #[]) (mvT hZ (own_h hw 79 rfl))) (mvT hZ (own_h hw 79 rfl)) (mvT hZ (own_h hw 78 rfl)) (by decide) (backOf (W := 0) (rmLB l Z a0 hw [] tt w T56.heap n0 Z56 Fkind56 FelementQuery56) hZ (own_h hw 80 rfl) (own_h hw 50 rfl) (by decide) (by decide)) q57a q57c (g := (mkF m 264 (own_L p0 p1 p2 p3 p4 p5 (.val (.int (p0 &&& (7 : Int32)))) (.val (.ref w)) (.val nv) (.val (.int (p1 &&& (3 : Int32)))) (.val (.ref x41)) (.val (.int (p2 &&& (3 : Int32)))) (.val (.ref tt)) (.val (.int (0 : Int32)))) [(.ref tt)])) rfl (by rw [hml]; rfl) (Steps.refl _) (argsL := []) (rest := []) (lenOf pd0_3 rfl) rfl (by show 2 * 0 + _ ≤ _; exact Nat.le_of_eq rfl) (hb hby at_264) (fun _ _ => ⟨rfl, rfl, (by decide : 12 + 0 ≤ _), (by decide : 54 + 0 ≤ _)⟩)
          dsimp only [Pt.U, Pt.locs, Pt.cells, Pt.slots] at X57 l57 y57 z57 st57 hQ57
          subst l57 y57 z57
          obtain ⟨rfl, N57q, e57q⟩ := hQ57
          have N57 := Fr.app N56 N57q
          refine Goes.via st57 ?_
          show Goes p e below _ (T57.setTop (mkF m 267 (own_L p0 p1 p2 p3 p4 p5 (.val (.int (p0 &&& (7 : Int32)))) (.val (.ref w)) (.val nv) (.val (.int (p1 &&& (3 : Int32)))) (.val (.ref x41)) (.val (.int (p2 &&& (3 : Int32)))) (.val (.ref tt)) (.val (.int (0 : Int32)))) [(.int (0 : Int32))]))
          refine Goes.go (fun t => XS.iload X57.here hx rfl (hb hby at_267) rfl ) ?_
          show Goes p e below _ (T57.setTop (mkF m 269 (own_L p0 p1 p2 p3 p4 p5 (.val (.int (p0 &&& (7 : Int32)))) (.val (.ref w)) (.val nv) (.val (.int (p1 &&& (3 : Int32)))) (.val (.ref x41)) (.val (.int (p2 &&& (3 : Int32)))) (.val (.ref tt)) (.val (.int (0 : Int32)))) [(.int (0 : Int32)), (.int (0 : Int32))]))
          refine Goes.go (fun t => XS.icmpNo X57.here hx rfl (hb hby at_269) rfl (Jvm.Free.XT.ii_ne_f (by decide))) ?_
          show Goes p e below _ (T57.setTop (mkF m 272 (own_L p0 p1 p2 p3 p4 p5 (.val (.int (p0 &&& (7 : Int32)))) (.val (.ref w)) (.val nv) (.val (.int (p1 &&& (3 : Int32)))) (.val (.ref x41)) (.val (.int (p2 &&& (3 : Int32)))) (.val (.ref tt)) (.val (.int (0 : Int32)))) []))
          refine Goes.go (fun t => XS.iconst X57.here hx rfl (hb hby at_272)) ?_
          refine Goes.go (fun t => XS.goto X57.here hx rfl (pc0 := 273) (pc' := 277) rfl (hb hby at_273) (by decide) (by decide)) ?_
          show Goes p e below _ (T57.setTop (mkF m 277 (own_L p0 p1 p2 p3 p4 p5 (.val (.int (p0 &&& (7 : Int32)))) (.val (.ref w)) (.val nv) (.val (.int (p1 &&& (3 : Int32)))) (.val (.ref x41)) (.val (.int (p2 &&& (3 : Int32)))) (.val (.ref tt)) (.val (.int (0 : Int32)))) [(.int (1 : Int32))]))
          exact Goes.outW X57 hS (by rw [e57q]; exact hk) (fun h => by rw [Bd.returns] at h; cases h) Bd.notSynchronized (fun fs hr => retN X57 hx (t := .boolean) Bd.returns (by simp) (hb hby at_277) hr) ⟨rfl, N57⟩ (by rw [hh, e57q]; exact CR56.trans (CHv.at X57 hZ (own_ew hw) CH56)) (by decide) (by decide)
  show Goes p e below _ (s₁.setTop (mkF m 0 (own_L p0 p1 p2 p3 p4 p5 .unset .unset .unset .unset .unset .unset .unset .unset) []))
  refine Goes.go (fun t => XS.iloadN X0.here hx rfl (hb hby at_0) rfl ) ?_
  refine Goes.go (fun t => XS.bipush X0.here hx rfl (hb hby at_1)) ?_
  refine Goes.go (fun t => XS.iand X0.here hx rfl (hb hby at_3) rfl) ?_
  refine Goes.go (fun t => XS.istore X0.here hx rfl (hb hby at_4) rfl (l' := (own_L p0 p1 p2 p3 p4 p5 (.val (.int (p0 &&& (7 : Int32)))) .unset .unset .unset .unset .unset .unset .unset)) rfl) ?_
  show Goes p e below _ (s₁.setTop (mkF m 6 (own_L p0 p1 p2 p3 p4 p5 (.val (.int (p0 &&& (7 : Int32)))) .unset .unset .unset .unset .unset .unset .unset) []))
  refine Goes.go (fun t => XS.iload X0.here hx rfl (hb hby at_6) rfl ) ?_
  show Goes p e below _ (s₁.setTop (mkF m 8 (own_L p0 p1 p2 p3 p4 p5 (.val (.int (p0 &&& (7 : Int32)))) .unset .unset .unset .unset .unset .unset .unset) [(.int (p0 &&& (7 : Int32)))]))
  obtain ⟨_, _, ⟨T58, L58, k58, n58⟩, -, X58, ⟨Lc58, hQ58, l58, y58, z58⟩, st58⟩ := Jvm.LawKit.callS X0 hx (y := (⟨"com/example/thames/thames/engine/NodeTestListedByTreePinLaw", "kindOf", "(I)Lcom/example/thames/thames/model/NodeKind;"⟩ : MethodName)) hown (mvT hZ (own_h hw 0 rfl)) (mvT hZ (own_h hw 1 rfl)) (mvT hZ (own_h hw 2 rfl)) (mvT hZ (own_h hw 3 rfl)) (by decide) (backOf (W := 0) (rmKO l Z a0 hw [] (p0 &&& (7 : Int32)) w_DOCUMENT w_ELEMENT w_ATTRIBUTE w_TEXT w_COMMENT w_PROCESSING_INSTRUCTION w_NAMESPACE f h0 n0 Z0 S_DOCUMENT S_ELEMENT S_ATTRIBUTE S_TEXT S_COMMENT S_PROCESSING_INSTRUCTION S_NAMESPACE O_DOCUMENT O_ELEMENT O_ATTRIBUTE O_TEXT O_COMMENT O_PROCESSING_INSTRUCTION O_NAMESPACE (own_and7 p0).1 (own_and7 p0).2) hZ (own_h hw 3 rfl) (own_h hw 2 rfl) (by decide) (by decide)) (g := (mkF m 8 (own_L p0 p1 p2 p3 p4 p5 (.val (.int (p0 &&& (7 : Int32)))) .unset .unset .unset .unset .unset .unset .unset) [(.int (p0 &&& (7 : Int32)))])) rfl (by rw [hml]; rfl) (argsL := [(.int (p0 &&& (7 : Int32)))]) (rest := []) (lenOf pd0_4 rfl) rfl (by show 2 * 0 + _ ≤ _; exact Nat.le_of_eq rfl) (hb hby at_8) (fun _ _ => ⟨rfl, e0, (by decide : 0 + 0 ≤ _), (by decide : 0 + 0 ≤ _)⟩)
  dsimp only [Pt.U, Pt.locs, Pt.cells, Pt.slots] at X58 l58 y58 z58 st58 hQ58
  subst l58 y58 z58
  obtain ⟨kv, rfl, N58q, e58q, hkv⟩ := hQ58
  have N58 := Fr.app N0 N58q
  refine Goes.go st58 ?_
  have r_kv : kv.isRef = true := hkv.isref
  show Goes p e below _ (T58.setTop (mkF m 11 (own_L p0 p1 p2 p3 p4 p5 (.val (.int (p0 &&& (7 : Int32)))) .unset .unset .unset .unset .unset .unset .unset) [kv]))
  refine Goes.go (fun t => XS.astore X58.here hx rfl (hb hby at_11) rfl (by assumption) (l' := (own_L p0 p1 p2 p3 p4 p5 (.val (.int (p0 &&& (7 : Int32)))) (.val kv) .unset .unset .unset .unset .unset .unset)) (by rcases ref_cases r_kv with h | ⟨_, h⟩ <;> rw [h] <;> rfl)) ?_
  refine Goes.go (fun t => XS.aconstNull X58.here hx rfl (hb hby at_13)) ?_
  refine Goes.go (fun t => XS.astore X58.here hx rfl (hb hby at_14) rfl rfl (l' := (own_L p0 p1 p2 p3 p4 p5 (.val (.int (p0 &&& (7 : Int32)))) (.val kv) (.val .null) .unset .unset .unset .unset .unset)) rfl) ?_
  refine Goes.go (fun t => XS.iloadN X58.here hx rfl (hb hby at_16) rfl ) ?_
  show Goes p e below _ (T58.setTop (mkF m 17 (own_L p0 p1 p2 p3 p4 p5 (.val (.int (p0 &&& (7 : Int32)))) (.val kv) (.val .null) .unset .unset .unset .unset .unset) [(.int p1)]))
  refine Goes.go (fun t => XS.iconst X58.here hx rfl (hb hby at_17)) ?_
  refine Goes.go (fun t => XS.iand X58.here hx rfl (hb hby at_18) rfl) ?_
  refine Goes.go (fun t => XS.istore X58.here hx rfl (hb hby at_19) rfl (l' := (own_L p0 p1 p2 p3 p4 p5 (.val (.int (p0 &&& (7 : Int32)))) (.val kv) (.val .null) (.val (.int (p1 &&& (3 : Int32)))) .unset .unset .unset .unset)) rfl) ?_
  refine Goes.go (fun t => XS.iload X58.here hx rfl (hb hby at_21) rfl ) ?_
  show Goes p e below _ (T58.setTop (mkF m 23 (own_L p0 p1 p2 p3 p4 p5 (.val (.int (p0 &&& (7 : Int32)))) (.val kv) (.val .null) (.val (.int (p1 &&& (3 : Int32)))) .unset .unset .unset .unset) [(.int (p1 &&& (3 : Int32)))]))
  refine Goes.go (fun t => XS.iconst X58.here hx rfl (hb hby at_23)) ?_
  show Goes p e below _ (T58.setTop (mkF m 24 (own_L p0 p1 p2 p3 p4 p5 (.val (.int (p0 &&& (7 : Int32)))) (.val kv) (.val .null) (.val (.int (p1 &&& (3 : Int32)))) .unset .unset .unset .unset) [(.int (1 : Int32)), (.int (p1 &&& (3 : Int32)))]))
  by_cases hc24 : (p1 &&& (3 : Int32)) = (1 : Int32)
  · refine Goes.go (fun t => XS.icmpNo X58.here hx rfl (hb hby at_24) rfl (Jvm.Free.XT.ii_ne_f hc24)) ?_
    show Goes p e below _ (T58.setTop (mkF m 27 (own_L p0 p1 p2 p3 p4 p5 (.val (.int (p0 &&& (7 : Int32)))) (.val kv) (.val .null) (.val (.int (p1 &&& (3 : Int32)))) .unset .unset .unset .unset) []))
    obtain ⟨T60, h60, X60, e60, E60, A60, D60, -, st60⟩ := newO X58 hx hZ hown (own_h hw 12 rfl) (own_h hw 13 rfl) (own_h hw 14 rfl) e58q (g := (mkF m 27 (own_L p0 p1 p2 p3 p4 p5 (.val (.int (p0 &&& (7 : Int32)))) (.val kv) (.val .null) (.val (.int (p1 &&& (3 : Int32)))) .unset .unset .unset .unset) [])) rfl (hb hby at_27) (by decide) (by decide)
    obtain ⟨x59, gq_x59⟩ : ∃ z, z = h0.size := ⟨_, rfl⟩
    rw [← gq_x59] at A60 D60 st60
    have g_x59 : n0 ≤ x59 := Nat.le_trans Z0 (Nat.le_of_eq gq_x59.symm)
    have gb_x59 : h0.size ≤ x59 := Nat.le_trans (⟨Nat.le_refl _, fun _ _ q => q⟩ : Ext h0 h0).1 (Nat.le_of_eq gq_x59.symm)
    have sn_x59 : Safe Z own_EL s.vm h0 x59 := Safe.new (Nat.le_of_eq gq_x59.symm)
    have CQ60 := CHr.ext E60 CH
    have CH60 := CQ60.1
    have CR60 := CR0.trans CQ60
    have hk := Nat.le_trans hk E60.1
    have SF_x59_60 := Safe.ext E60 CH sn_x59
    have Z60 : n0 ≤ h60.size := Nat.le_trans Z0 E60.1
    have B60 : Ext h0 h60 := own_ext_trans (⟨Nat.le_refl _, fun _ _ q => q⟩ : Ext h0 h0) E60
    have F_coder_x59_60 : Fld Z h60 x59 "java/lang/String" "coder" "B" (.int (0 : Int32)) := D60 (Or.inr (own_h hw 38 rfl)) (ty := .byte) (by decide)
    have F_value_x59_60 : Fld Z h60 x59 "java/lang/String" "value" "[B" .null := D60 (Or.inr (own_h hw 40 rfl)) (ty := (.array .byte)) (by decide)
    refine Goes.go st60 ?_
    show Goes p e below _ (T60.setTop (mkF m 30 (own_L p0 p1 p2 p3 p4 p5 (.val (.int (p0 &&& (7 : Int32)))) (.val kv) (.val .null) (.val (.int (p1 &&& (3 : Int32)))) .unset .unset .unset .unset) [(.ref x59)]))
    refine Goes.go (fun t => XS.dup X60.here hx rfl (hb hby at_30) rfl rfl) ?_
    refine Goes.go (fun t => XS.iconst X60.here hx rfl (hb hby at_31)) ?_
    show Goes p e below _ (T60.setTop (mkF m 32 (own_L p0 p1 p2 p3 p4 p5 (.val (.int (p0 &&& (7 : Int32)))) (.val kv) (.val .null) (.val (.int (p1 &&& (3 : Int32)))) .unset .unset .unset .unset) [(.int (0 : Int32)), (.ref x59), (.ref x59)]))
    obtain ⟨T61, h61, k61, X61, e61, E61, A61, st61⟩ := newP X60 hx hZ (own_h hw 7 rfl) e60 (g := (mkF m 32 (own_L p0 p1 p2 p3 p4 p5 (.val (.int (p0 &&& (7 : Int32)))) (.val kv) (.val .null) (.val (.int (p1 &&& (3 : Int32)))) .unset .unset .unset .unset) [(.int (0 : Int32)), (.ref x59), (.ref x59)])) rfl (hb hby at_32) rfl (by decide) (cap := 0) (by decide) (by decide) (by decide) (by decide)
    obtain ⟨c61, gq_c61⟩ : ∃ z, z = h60.size := ⟨_, rfl⟩
    rw [← gq_c61] at A61 st61
    have g_c61 : n0 ≤ c61 := Nat.le_trans Z60 (Nat.le_of_eq gq_c61.symm)
    have gb_c61 : h0.size ≤ c61 := Nat.le_trans B60.1 (Nat.le_of_eq gq_c61.symm)
    have CQ61 := CHr.ext E61 CH60
    have CH61 := CQ61.1
    have CR61 := CR60.trans CQ61
    have hk := Nat.le_trans hk E61.1
    have lt_x59_61 := Nat.lt_of_lt_of_le A60.lt E61.1
    have SF_x59_61 := Safe.ext E61 CH60 SF_x59_60
    have Z61 : n0 ≤ h61.size := Nat.le_trans Z60 E61.1
    have B61 : Ext h0 h61 := own_ext_trans B60 E61
    have E_x59_61 : Exa Z h61 x59 "java/lang/String" := A60.ext E61
    have F_coder_x59_61 : Fld Z h61 x59 "java/lang/String" "coder" "B" (.int (0 : Int32)) := F_coder_x59_60.ext E61
    have F_value_x59_61 : Fld Z h61 x59 "java/lang/String" "value" "[B" .null := F_value_x59_60.ext E61
    refine Goes.go st61 ?_
    show Goes p e below _ (T61.setTop (mkF m 34 (own_L p0 p1 p2 p3 p4 p5 (.val (.int (p0 &&& (7 : Int32)))) (.val kv) (.val .null) (.val (.int (p1 &&& (3 : Int32)))) .unset .unset .unset .unset) [(.ref c61), (.ref x59), (.ref x59)]))
    obtain ⟨_, _, ⟨T62, L62, k62, n62⟩, -, X62, hS62, hg62, ⟨Lc62, hQ62, l62, y62, z62, CQ62⟩, st62⟩ := X61.specialBackS hx (y := (⟨"java/lang/String", "<init>", "([C)V"⟩ : MethodName)) rfl hown (mvT hZ (own_h hw 15 rfl)) (mvT hZ (own_h hw 16 rfl)) (mvT hZ (own_h hw 17 rfl)) (by decide) (own_backSF (s := s) (vm0 := s.vm) (W := 1) (rmS1 l Z a0 hw [] x59 c61 (newA k61 .char 0) h61 n0 Z61 E_x59_61 F_value_x59_61 F_coder_x59_61 g_x59 A61 (by rw [sz_new]; rfl)) hZ (own_h hw 17 rfl) (own_h hw 14 rfl) (by decide) (by decide) (own_ew hw) CH61 lt_x59_61 SF_x59_61) (g := (mkF m 34 (own_L p0 p1 p2 p3 p4 p5 (.val (.int (p0 &&& (7 : Int32)))) (.val kv) (.val .null) (.val (.int (p1 &&& (3 : Int32)))) .unset .unset .unset .unset) [(.ref c61), (.ref x59), (.ref x59)])) rfl (by rw [hml]; rfl) (Steps.refl _) (a := x59) (argsL := [(.ref c61)]) (rest := [(.ref x59)]) (lenOf pd0_1 rfl) rfl (by show 2 * 0 + _ ≤ _; exact Nat.le_of_eq rfl) (hb hby at_34) (fun _ _ => ⟨rfl, e61, (by decide : 2 + 4 ≤ _), (by decide : 4 + 8 ≤ _)⟩)
    dsimp only [Pt.U, Pt.locs, Pt.cells, Pt.slots] at X62 hS62 hg62 l62 y62 z62 st62 hQ62 CQ62
    subst l62 y62 z62
    obtain ⟨rfl, N62q, K62, Sx62⟩ := hQ62
    have N62 := Fr.app N58 N62q
    obtain ⟨X62, hS, hZ, hown⟩ := rebS (n1 := T61.heap.size) hS (by rw [e61]; exact hk) X62 hS62 hg62 hZ hown
    have hk : T62.heap.size ≤ T62.heap.size := Nat.le_refl _
    have CH62 := CQ62.1
    have CR62 := CR61.trans CQ62
    refine Goes.via st62 ?_
    have Z62 : n0 ≤ T62.heap.size := Nat.le_trans Z61 K62.1
    have B62 : Ext h0 T62.heap := own_ext_keep B61 K62 (allS gb_x59 all0)
    have E_x59_62 : Exa Z T62.heap x59 "java/lang/String" := E_x59_61.keep K62
    obtain ⟨LL63, XL63, NL63⟩ : ∃ LL : List Loc, Stand p l e room_1 (s.setVm T62.vm) m #[(.int p0), (.int p1), (.int p2), (.int p3), (.int p4), (.int p5)] below meth c T62 LL 6 12 ∧ Fr n0 LL := ⟨_, X62, N62⟩
    show Goes p e below _ (T62.setTop (mkF m 37 (own_L p0 p1 p2 p3 p4 p5 (.val (.int (p0 &&& (7 : Int32)))) (.val kv) (.val .null) (.val (.int (p1 &&& (3 : Int32)))) .unset .unset .unset .unset) [(.ref x59)]))
    refine Goes.go (fun t => XS.astore XL63.here hx rfl (hb hby at_37) rfl rfl (l' := (own_L p0 p1 p2 p3 p4 p5 (.val (.int (p0 &&& (7 : Int32)))) (.val kv) (.val (.ref x59)) (.val (.int (p1 &&& (3 : Int32)))) .unset .unset .unset .unset)) rfl) ?_
    refine Goes.go (fun t => XS.goto XL63.here hx rfl (pc0 := 39) (pc' := 114) rfl (hb hby at_39) (by decide) (by decide)) ?_
    refine Goes.go (fun t => XS.aconstNull XL63.here hx rfl (hb hby at_114)) ?_
    refine Goes.go (fun t => XS.astore XL63.here hx rfl (hb hby at_115) rfl rfl (l' := (own_L p0 p1 p2 p3 p4 p5 (.val (.int (p0 &&& (7 : Int32)))) (.val kv) (.val (.ref x59)) (.val (.int (p1 &&& (3 : Int32)))) (.val .null) .unset .unset .unset)) rfl) ?_
    have Xm := XL63.mono (cells' := 8) (slots' := 40) (by decide) (by decide)
    exact j117 T62.vm T62 T62.heap _ _ kv (.ref x59) Xm NL63 rfl hS hk hZ hown CH62 CR62 Z62 (V.ext B62) (S_ELEMENT.ext B62) hkv (Or.inr ⟨_, _, rfl, Sx62, (Or.inl rfl)⟩) (Or.inr ⟨_, rfl, by rw [hc24]; decide⟩)
  · refine Goes.go (fun t => XS.icmpYes X58.here hx rfl (pc0 := 24) (pc' := 42) rfl (hb hby at_24) rfl (Jvm.Free.XT.ii_ne_t hc24) (by decide) (by decide)) ?_
    show Goes p e below _ (T58.setTop (mkF m 42 (own_L p0 p1 p2 p3 p4 p5 (.val (.int (p0 &&& (7 : Int32)))) (.val kv) (.val .null) (.val (.int (p1 &&& (3 : Int32)))) .unset .unset .unset .unset) []))
    refine Goes.go (fun t => XS.iload X58.here hx rfl (hb hby at_42) rfl ) ?_
    refine Goes.go (fun t => XS.iconst X58.here hx rfl (hb hby at_44)) ?_
    show Goes p e below _ (T58.setTop (mkF m 45 (own_L p0 p1 p2 p3 p4 p5 (.val (.int (p0 &&& (7 : Int32)))) (.val kv) (.val .null) (.val (.int (p1 &&& (3 : Int32)))) .unset .unset .unset .unset) [(.int (2 : Int32)), (.int (p1 &&& (3 : Int32)))]))
    by_cases hc45 : (p1 &&& (3 : Int32)) = (2 : Int32)
    · refine Goes.go (fun t => XS.icmpNo X58.here hx rfl (hb hby at_45) rfl (Jvm.Free.XT.ii_ne_f hc45)) ?_
      show Goes p e below _ (T58.setTop (mkF m 48 (own_L p0 p1 p2 p3 p4 p5 (.val (.int (p0 &&& (7 : Int32)))) (.val kv) (.val .null) (.val (.int (p1 &&& (3 : Int32)))) .unset .unset .unset .unset) []))
      refine Goes.go (fun t => XS.iconst X58.here hx rfl (hb hby at_48)) ?_
      show Goes p e below _ (T58.setTop (mkF m 49 (own_L p0 p1 p2 p3 p4 p5 (.val (.int (p0 &&& (7 : Int32)))) (.val kv) (.val .null) (.val (.int (p1 &&& (3 : Int32)))) .unset .unset .unset .unset) [(.int (1 : Int32))]))
      obtain ⟨T64, h64, k64, X64, e64, E64, A64, st64⟩ := newP X58 hx hZ (own_h hw 7 rfl) e58q (g := (mkF m 49 (own_L p0 p1 p2 p3 p4 p5 (.val (.int (p0 &&& (7 : Int32)))) (.val kv) (.val .null) (.val (.int (p1 &&& (3 : Int32)))) .unset .unset .unset .unset) [(.int (1 : Int32))])) rfl (hb hby at_49) rfl (by decide) (cap := 1) (by decide) (by decide) (by decide) (by decide)
      obtain ⟨c64, gq_c64⟩ : ∃ z, z = h0.size := ⟨_, rfl⟩
      rw [← gq_c64] at A64 st64
      have g_c64 : n0 ≤ c64 := Nat.le_trans Z0 (Nat.le_of_eq gq_c64.symm)
      have gb_c64 : h0.size ≤ c64 := Nat.le_trans (⟨Nat.le_refl _, fun _ _ q => q⟩ : Ext h0 h0).1 (Nat.le_of_eq gq_c64.symm)
      have CQ64 := CHr.ext E64 CH
      have CH64 := CQ64.1
      have CR64 := CR0.trans CQ64
      have hk := Nat.le_trans hk E64.1
      have Z64 : n0 ≤ h64.size := Nat.le_trans Z0 E64.1
      have B64 : Ext h0 h64 := own_ext_trans (⟨Nat.le_refl _, fun _ _ q => q⟩ : Ext h0 h0) E64
      have V_c64 : Arv Z h64 c64 k64 .char (1 : Int32) [(.int (0 : Int32))] (.int (0 : Int32)) := (Arv.new A64 (by decide)).pad (pad_rep [] (.int (0 : Int32)) 1)
      refine Goes.go st64 ?_
      show Goes p e below _ (T64.setTop (mkF m 51 (own_L p0 p1 p2 p3 p4 p5 (.val (.int (p0 &&& (7 : Int32)))) (.val kv) (.val .null) (.val (.int (p1 &&& (3 : Int32)))) .unset .unset .unset .unset) [(.ref c64)]))
      refine Goes.go (fun t => XS.astore X64.here hx rfl (hb hby at_51) rfl rfl (l' := (own_L p0 p1 p2 p3 p4 p5 (.val (.int (p0 &&& (7 : Int32)))) (.val kv) (.val .null) (.val (.int (p1 &&& (3 : Int32)))) (.val (.ref c64)) .unset .unset .unset)) rfl) ?_
      refine Goes.go (fun t => XS.aload X64.here hx rfl (hb hby at_53) rfl rfl ) ?_
      refine Goes.go (fun t => XS.iconst X64.here hx rfl (hb hby at_55)) ?_
      refine Goes.go (fun t => XS.iloadN X64.here hx rfl (hb hby at_56) rfl ) ?_
      show Goes p e below _ (T64.setTop (mkF m 57 (own_L p0 p1 p2 p3 p4 p5 (.val (.int (p0 &&& (7 : Int32)))) (.val kv) (.val .null) (.val (.int (p1 &&& (3 : Int32)))) (.val (.ref c64)) .unset .unset .unset) [(.int p3), (.int (0 : Int32)), (.ref c64)]))
      obtain ⟨_, _, ⟨T65, L65, k65, n65⟩, -, X65, ⟨Lc65, hQ65, l65, y65, z65⟩, st65⟩ := Jvm.LawKit.callS X64 hx (y := (⟨"com/example/thames/thames/engine/NodeTestListedByTreePinLaw", "xmlChar", "(I)C"⟩ : MethodName)) hown (mvT hZ (own_h hw 8 rfl)) (mvT hZ (own_h hw 9 rfl)) (mvT hZ (own_h hw 2 rfl)) (mvT hZ (own_h hw 10 rfl)) (by decide) (backOf (W := 2) (rmXM l Z a0 hw [] p3 h64 n0 Z64) hZ (own_h hw 10 rfl) (own_h hw 2 rfl) (by decide) (by decide)) (g := (mkF m 57 (own_L p0 p1 p2 p3 p4 p5 (.val (.int (p0 &&& (7 : Int32)))) (.val kv) (.val .null) (.val (.int (p1 &&& (3 : Int32)))) (.val (.ref c64)) .unset .unset .unset) [(.int p3), (.int (0 : Int32)), (.ref c64)])) rfl (by rw [hml]; rfl) (argsL := [(.int p3)]) (rest := [(.int (0 : Int32)), (.ref c64)]) (lenOf pd0_0 rfl) rfl (by show 2 * 0 + _ ≤ _; exact Nat.le_of_eq rfl) (hb hby at_57) (fun _ _ => ⟨rfl, e64, (by decide : 1 + 0 ≤ _), (by decide : 1 + 0 ≤ _)⟩)
      dsimp only [Pt.U, Pt.locs, Pt.cells, Pt.slots] at X65 l65 y65 z65 st65 hQ65
      subst l65 y65 z65
      obtain ⟨ch65, rfl, N65q, e65q, hch65⟩ := hQ65
      have N65 := Fr.app N58 N65q
      refine Goes.go st65 ?_
      show Goes p e below _ (T65.setTop (mkF m 60 (own_L p0 p1 p2 p3 p4 p5 (.val (.int (p0 &&& (7 : Int32)))) (.val kv) (.val .null) (.val (.int (p1 &&& (3 : Int32)))) (.val (.ref c64)) .unset .unset .unset) [(.int ch65), (.int (0 : Int32)), (.ref c64)]))
      have sf66 : Safe Z own_EL s.vm h64 c64 := Safe.arv hZ.alike V_c64 (by decide)
      obtain ⟨cl66, Ar66, q66, Sz66, Nn66, Hh66, Gg66⟩ := id V_c64
      obtain ⟨T66, h66, X66, e66, W66, st66⟩ := stC X65 hx hZ e65q Ar66 (j := (0 : Int32)) (inb_of Sz66 ⟨by decide, by decide⟩) (g := (mkF m 60 (own_L p0 p1 p2 p3 p4 p5 (.val (.int (p0 &&& (7 : Int32)))) (.val kv) (.val .null) (.val (.int (p1 &&& (3 : Int32)))) (.val (.ref c64)) .unset .unset .unset) [(.int ch65), (.int (0 : Int32)), (.ref c64)])) rfl rfl (hb hby at_60)
      rw [own_narch hch65] at W66
      have V66 : Arv Z h66 c64 k64 .char (1 : Int32) [(.int ch65)] (.int (0 : Int32)) := Arv.set Ar66 q66 Sz66 Nn66 Hh66 Gg66 (own_fitch hch65) W66 0 rfl (Nat.le_of_ble_eq_true rfl)
      have CQ66 := CHr.wr W66 sf66 CH64
      have CH66 := CQ66.1
      have CR66 := CR64.trans CQ66
      have hk := Nat.le_trans hk (Nat.le_of_eq W66.size.symm)
      have Z66 : n0 ≤ h66.size := Nat.le_trans Z64 (Nat.le_of_eq W66.size.symm)
      have B66 : Ext h0 h66 := own_ext_wr B64 W66 gb_c64
      have N66 := Fr.snoc X66 N65 g_c64
      refine Goes.go st66 ?_
      obtain ⟨LL67, XL67, NL67⟩ : ∃ LL : List Loc, Stand p l e room_1 (s.setVm s.vm) m #[(.int p0), (.int p1), (.int p2), (.int p3), (.int p4), (.int p5)] below meth c T66 LL 1 1 ∧ Fr n0 LL := ⟨_, X66, N66⟩
      show Goes p e below _ (T66.setTop (mkF m 61 (own_L p0 p1 p2 p3 p4 p5 (.val (.int (p0 &&& (7 : Int32)))) (.val kv) (.val .null) (.val (.int (p1 &&& (3 : Int32)))) (.val (.ref c64)) .unset .unset .unset) []))
      obtain ⟨T69, h69, X69, e69, E69, A69, D69, -, st69⟩ := newO XL67 hx hZ hown (own_h hw 12 rfl) (own_h hw 13 rfl) (own_h hw 14 rfl) e66 (g := (mkF m 61 (own_L p0 p1 p2 p3 p4 p5 (.val (.int (p0 &&& (7 : Int32)))) (.val kv) (.val .null) (.val (.int (p1 &&& (3 : Int32)))) (.val (.ref c64)) .unset .unset .unset) [])) rfl (hb hby at_61) (by decide) (by decide)
      obtain ⟨x68, gq_x68⟩ : ∃ z, z = h66.size := ⟨_, rfl⟩
      rw [← gq_x68] at A69 D69 st69
      have g_x68 : n0 ≤ x68 := Nat.le_trans Z66 (Nat.le_of_eq gq_x68.symm)
      have gb_x68 : h0.size ≤ x68 := Nat.le_trans B66.1 (Nat.le_of_eq gq_x68.symm)
      have sn_x68 : Safe Z own_EL s.vm h66 x68 := Safe.new (Nat.le_of_eq gq_x68.symm)
      have CQ69 := CHr.ext E69 CH66
      have CH69 := CQ69.1
      have CR69 := CR66.trans CQ69
      have hk := Nat.le_trans hk E69.1
      have SF_x68_69 := Safe.ext E69 CH66 sn_x68
      have Z69 : n0 ≤ h69.size := Nat.le_trans Z66 E69.1
      have B69 : Ext h0 h69 := own_ext_trans B66 E69
      have F_coder_x68_69 : Fld Z h69 x68 "java/lang/String" "coder" "B" (.int (0 : Int32)) := D69 (Or.inr (own_h hw 38 rfl)) (ty := .byte) (by decide)
      have F_value_x68_69 : Fld Z h69 x68 "java/lang/String" "value" "[B" .null := D69 (Or.inr (own_h hw 40 rfl)) (ty := (.array .byte)) (by decide)
      refine Goes.go st69 ?_
      have V70 := V66.ext E69
      show Goes p e below _ (T69.setTop (mkF m 64 (own_L p0 p1 p2 p3 p4 p5 (.val (.int (p0 &&& (7 : Int32)))) (.val kv) (.val .null) (.val (.int (p1 &&& (3 : Int32)))) (.val (.ref c64)) .unset .unset .unset) [(.ref x68)]))
      refine Goes.go (fun t => XS.dup X69.here hx rfl (hb hby at_64) rfl rfl) ?_
      refine Goes.go (fun t => XS.aload X69.here hx rfl (hb hby at_65) rfl rfl ) ?_
      show Goes p e below _ (T69.setTop (mkF m 67 (own_L p0 p1 p2 p3 p4 p5 (.val (.int (p0 &&& (7 : Int32)))) (.val kv) (.val .null) (.val (.int (p1 &&& (3 : Int32)))) (.val (.ref c64)) .unset .unset .unset) [(.ref c64), (.ref x68), (.ref x68)]))
      have hpx68 : ∀ c ∈ ([ch65] : List Int32), ¬ c < 0 ∧ ¬ (255 : Int32) < c := by
        intro c hc; simp only [List.mem_cons, List.not_mem_nil, or_false] at hc
        subst hc; exact hch65.bd
      obtain ⟨_, _, ⟨T71, L71, k71, n71⟩, -, X71, ⟨Lc71, hQ71, l71, y71, z71⟩, st71⟩ := X69.specialBack hx (y := (⟨"java/lang/String", "<init>", "([C)V"⟩ : MethodName)) rfl hown (mvT hZ (own_h hw 15 rfl)) (mvT hZ (own_h hw 16 rfl)) (mvT hZ (own_h hw 17 rfl)) (by decide) (StrChars.Road.backV (W := 1) hZ (fun d hd => hw d (own_wNew d hd)) (kI := 4) (own_h hw 13 rfl) (cs := ([ch65] : List Int32)) (bs := ([ch65] : List Int32).map (fun c => c.toInt8.toInt32)) (n := 1) g_x68 Z69 A69 F_value_x68_69 F_coder_x68_69 V70 (S_z.ext B69) hz rfl rfl (by decide) (by decide) hpx68 rfl (by decide) (by decide)) (g := (mkF m 67 (own_L p0 p1 p2 p3 p4 p5 (.val (.int (p0 &&& (7 : Int32)))) (.val kv) (.val .null) (.val (.int (p1 &&& (3 : Int32)))) (.val (.ref c64)) .unset .unset .unset) [(.ref c64), (.ref x68), (.ref x68)])) rfl (by rw [hml]; rfl) (Steps.refl _) (a := x68) (argsL := [(.ref c64)]) (rest := [(.ref x68)]) (lenOf pd0_1 rfl) rfl (by show 2 * 0 + _ ≤ _; exact Nat.le_of_eq rfl) (hb hby at_67) (fun _ _ => ⟨rfl, e69, (by decide : 2 + 1 ≤ _), (by decide : 5 + 1 ≤ _)⟩)
      dsimp only [Pt.U, Pt.locs, Pt.cells, Pt.slots] at X71 l71 y71 z71 st71 hQ71
      subst l71 y71 z71
      obtain ⟨rfl, N71q, K71, Ea71, Fc71, t71, kb71, -, -, -, Fv71, Av71⟩ := hQ71
      have N71 := Fr.app NL67 N71q
      refine Goes.via st71 ?_
      have CQ71 := CHr.keep K71 (sfS SF_x68_69 sf0) CH69
      have CH71 := CQ71.1
      have CR71 := CR69.trans CQ71
      have hk := Nat.le_trans hk K71.1
      have Z71 : n0 ≤ T71.heap.size := Nat.le_trans Z69 K71.1
      have B71 : Ext h0 T71.heap := own_ext_keep B69 K71 (allS gb_x68 all0)
      have E_x68_71 : Exa Z T71.heap x68 "java/lang/String" := A69.keep K71
      have Sx71 : own_s Z T71.heap x68 [ch65] := ⟨Ea71, Fc71, ⟨t71, kb71, Fv71, Av71⟩, hpx68, by show 1 ≤ 4000; decide⟩
      obtain ⟨LL72, XL72, NL72⟩ : ∃ LL : List Loc, Stand p l e room_1 (s.setVm s.vm) m #[(.int p0), (.int p1), (.int p2), (.int p3), (.int p4), (.int p5)] below meth c T71 LL 3 6 ∧ Fr n0 LL := ⟨_, X71, N71⟩
      show Goes p e below _ (T71.setTop (mkF m 70 (own_L p0 p1 p2 p3 p4 p5 (.val (.int (p0 &&& (7 : Int32)))) (.val kv) (.val .null) (.val (.int (p1 &&& (3 : Int32)))) (.val (.ref c64)) .unset .unset .unset) [(.ref x68)]))
      refine Goes.go (fun t => XS.astore XL72.here hx rfl (hb hby at_70) rfl rfl (l' := (own_L p0 p1 p2 p3 p4 p5 (.val (.int (p0 &&& (7 : Int32)))) (.val kv) (.val (.ref x68)) (.val (.int (p1 &&& (3 : Int32)))) (.val (.ref c64)) .unset .unset .unset)) rfl) ?_
      refine Goes.go (fun t => XS.goto XL72.here hx rfl (pc0 := 72) (pc' := 114) rfl (hb hby at_72) (by decide) (by decide)) ?_
      refine Goes.go (fun t => XS.aconstNull XL72.here hx rfl (hb hby at_114)) ?_
      refine Goes.go (fun t => XS.astore XL72.here hx rfl (hb hby at_115) rfl rfl (l' := (own_L p0 p1 p2 p3 p4 p5 (.val (.int (p0 &&& (7 : Int32)))) (.val kv) (.val (.ref x68)) (.val (.int (p1 &&& (3 : Int32)))) (.val .null) .unset .unset .unset)) rfl) ?_
      have Xm := XL72.mono (cells' := 8) (slots' := 40) (by decide) (by decide)
      exact j117 s.vm T71 T71.heap _ _ kv (.ref x68) Xm NL72 rfl hS hk hZ hown CH71 CR71 Z71 (V.ext B71) (S_ELEMENT.ext B71) hkv (Or.inr ⟨_, _, rfl, Sx71, (Or.inr (Or.inl ⟨_, rfl, hch65⟩))⟩) (Or.inr ⟨_, rfl, by rw [hc45]; decide⟩)
    · refine Goes.go (fun t => XS.icmpYes X58.here hx rfl (pc0 := 45) (pc' := 75) rfl (hb hby at_45) rfl (Jvm.Free.XT.ii_ne_t hc45) (by decide) (by decide)) ?_
      show Goes p e below _ (T58.setTop (mkF m 75 (own_L p0 p1 p2 p3 p4 p5 (.val (.int (p0 &&& (7 : Int32)))) (.val kv) (.val .null) (.val (.int (p1 &&& (3 : Int32)))) .unset .unset .unset .unset) []))
      refine Goes.go (fun t => XS.iload X58.here hx rfl (hb hby at_75) rfl ) ?_
      refine Goes.go (fun t => XS.iconst X58.here hx rfl (hb hby at_77)) ?_
      show Goes p e below _ (T58.setTop (mkF m 78 (own_L p0 p1 p2 p3 p4 p5 (.val (.int (p0 &&& (7 : Int32)))) (.val kv) (.val .null) (.val (.int (p1 &&& (3 : Int32)))) .unset .unset .unset .unset) [(.int (3 : Int32)), (.int (p1 &&& (3 : Int32)))]))
      by_cases hc78 : (p1 &&& (3 : Int32)) = (3 : Int32)
      · refine Goes.go (fun t => XS.icmpNo X58.here hx rfl (hb hby at_78) rfl (Jvm.Free.XT.ii_ne_f hc78)) ?_
        show Goes p e below _ (T58.setTop (mkF m 81 (own_L p0 p1 p2 p3 p4 p5 (.val (.int (p0 &&& (7 : Int32)))) (.val kv) (.val .null) (.val (.int (p1 &&& (3 : Int32)))) .unset .unset .unset .unset) []))
        refine Goes.go (fun t => XS.iconst X58.here hx rfl (hb hby at_81)) ?_
        show Goes p e below _ (T58.setTop (mkF m 82 (own_L p0 p1 p2 p3 p4 p5 (.val (.int (p0 &&& (7 : Int32)))) (.val kv) (.val .null) (.val (.int (p1 &&& (3 : Int32)))) .unset .unset .unset .unset) [(.int (2 : Int32))]))
        obtain ⟨T73, h73, k73, X73, e73, E73, A73, st73⟩ := newP X58 hx hZ (own_h hw 7 rfl) e58q (g := (mkF m 82 (own_L p0 p1 p2 p3 p4 p5 (.val (.int (p0 &&& (7 : Int32)))) (.val kv) (.val .null) (.val (.int (p1 &&& (3 : Int32)))) .unset .unset .unset .unset) [(.int (2 : Int32))])) rfl (hb hby at_82) rfl (by decide) (cap := 2) (by decide) (by decide) (by decide) (by decide)
        obtain ⟨c73, gq_c73⟩ : ∃ z, z = h0.size := ⟨_, rfl⟩
        rw [← gq_c73] at A73 st73
        have g_c73 : n0 ≤ c73 := Nat.le_trans Z0 (Nat.le_of_eq gq_c73.symm)
        have gb_c73 : h0.size ≤ c73 := Nat.le_trans (⟨Nat.le_refl _, fun _ _ q => q⟩ : Ext h0 h0).1 (Nat.le_of_eq gq_c73.symm)
        have CQ73 := CHr.ext E73 CH
        have CH73 := CQ73.1
        have CR73 := CR0.trans CQ73
        have hk := Nat.le_trans hk E73.1
        have Z73 : n0 ≤ h73.size := Nat.le_trans Z0 E73.1
        have B73 : Ext h0 h73 := own_ext_trans (⟨Nat.le_refl _, fun _ _ q => q⟩ : Ext h0 h0) E73
        have V_c73 : Arv Z h73 c73 k73 .char (2 : Int32) [(.int (0 : Int32)), (.int (0 : Int32))] (.int (0 : Int32)) := (Arv.new A73 (by decide)).pad (pad_rep [] (.int (0 : Int32)) 2)
        refine Goes.go st73 ?_
        show Goes p e below _ (T73.setTop (mkF m 84 (own_L p0 p1 p2 p3 p4 p5 (.val (.int (p0 &&& (7 : Int32)))) (.val kv) (.val .null) (.val (.int (p1 &&& (3 : Int32)))) .unset .unset .unset .unset) [(.ref c73)]))
        refine Goes.go (fun t => XS.astore X73.here hx rfl (hb hby at_84) rfl rfl (l' := (own_L p0 p1 p2 p3 p4 p5 (.val (.int (p0 &&& (7 : Int32)))) (.val kv) (.val .null) (.val (.int (p1 &&& (3 : Int32)))) (.val (.ref c73)) .unset .unset .unset)) rfl) ?_
        refine Goes.go (fun t => XS.aload X73.here hx rfl (hb hby at_86) rfl rfl ) ?_
        refine Goes.go (fun t => XS.iconst X73.here hx rfl (hb hby at_88)) ?_
        refine Goes.go (fun t => XS.iloadN X73.here hx rfl (hb hby at_89) rfl ) ?_
        show Goes p e below _ (T73.setTop (mkF m 90 (own_L p0 p1 p2 p3 p4 p5 (.val (.int (p0 &&& (7 : Int32)))) (.val kv) (.val .null) (.val (.int (p1 &&& (3 : Int32)))) (.val (.ref c73)) .unset .unset .unset) [(.int p3), (.int (0 : Int32)), (.ref c73)]))
        obtain ⟨_, _, ⟨T74, L74, k74, n74⟩, -, X74, ⟨Lc74, hQ74, l74, y74, z74⟩, st74⟩ := Jvm.LawKit.callS X73 hx (y := (⟨"com/example/thames/thames/engine/NodeTestListedByTreePinLaw", "xmlChar", "(I)C"⟩ : MethodName)) hown (mvT hZ (own_h hw 8 rfl)) (mvT hZ (own_h hw 9 rfl)) (mvT hZ (own_h hw 2 rfl)) (mvT hZ (own_h hw 10 rfl)) (by decide) (backOf (W := 2) (rmXM l Z a0 hw [] p3 h73 n0 Z73) hZ (own_h hw 10 rfl) (own_h hw 2 rfl) (by decide) (by decide)) (g := (mkF m 90 (own_L p0 p1 p2 p3 p4 p5 (.val (.int (p0 &&& (7 : Int32)))) (.val kv) (.val .null) (.val (.int (p1 &&& (3 : Int32)))) (.val (.ref c73)) .unset .unset .unset) [(.int p3), (.int (0 : Int32)), (.ref c73)])) rfl (by rw [hml]; rfl) (argsL := [(.int p3)]) (rest := [(.int (0 : Int32)), (.ref c73)]) (lenOf pd0_0 rfl) rfl (by show 2 * 0 + _ ≤ _; exact Nat.le_of_eq rfl) (hb hby at_90) (fun _ _ => ⟨rfl, e73, (by decide : 1 + 0 ≤ _), (by decide : 2 + 0 ≤ _)⟩)
        dsimp only [Pt.U, Pt.locs, Pt.cells, Pt.slots] at X74 l74 y74 z74 st74 hQ74
        subst l74 y74 z74
        obtain ⟨ch74, rfl, N74q, e74q, hch74⟩ := hQ74
        have N74 := Fr.app N58 N74q
        refine Goes.go st74 ?_
        show Goes p e below _ (T74.setTop (mkF m 93 (own_L p0 p1 p2 p3 p4 p5 (.val (.int (p0 &&& (7 : Int32)))) (.val kv) (.val .null) (.val (.int (p1 &&& (3 : Int32)))) (.val (.ref c73)) .unset .unset .unset) [(.int ch74), (.int (0 : Int32)), (.ref c73)]))
        have sf75 : Safe Z own_EL s.vm h73 c73 := Safe.arv hZ.alike V_c73 (by decide)
        obtain ⟨cl75, Ar75, q75, Sz75, Nn75, Hh75, Gg75⟩ := id V_c73
        obtain ⟨T75, h75, X75, e75, W75, st75⟩ := stC X74 hx hZ e74q Ar75 (j := (0 : Int32)) (inb_of Sz75 ⟨by decide, by decide⟩) (g := (mkF m 93 (own_L p0 p1 p2 p3 p4 p5 (.val (.int (p0 &&& (7 : Int32)))) (.val kv) (.val .null) (.val (.int (p1 &&& (3 : Int32)))) (.val (.ref c73)) .unset .unset .unset) [(.int ch74), (.int (0 : Int32)), (.ref c73)])) rfl rfl (hb hby at_93)
        rw [own_narch hch74] at W75
        have V75 : Arv Z h75 c73 k73 .char (2 : Int32) [(.int ch74), (.int (0 : Int32))] (.int (0 : Int32)) := Arv.set Ar75 q75 Sz75 Nn75 Hh75 Gg75 (own_fitch hch74) W75 0 rfl (Nat.le_of_ble_eq_true rfl)
        have CQ75 := CHr.wr W75 sf75 CH73
        have CH75 := CQ75.1
        have CR75 := CR73.trans CQ75
        have hk := Nat.le_trans hk (Nat.le_of_eq W75.size.symm)
        have Z75 : n0 ≤ h75.size := Nat.le_trans Z73 (Nat.le_of_eq W75.size.symm)
        have B75 : Ext h0 h75 := own_ext_wr B73 W75 gb_c73
        have N75 := Fr.snoc X75 N74 g_c73
        refine Goes.go st75 ?_
        obtain ⟨LL76, XL76, NL76⟩ : ∃ LL : List Loc, Stand p l e room_1 (s.setVm s.vm) m #[(.int p0), (.int p1), (.int p2), (.int p3), (.int p4), (.int p5)] below meth c T75 LL 1 2 ∧ Fr n0 LL := ⟨_, X75, N75⟩
        show Goes p e below _ (T75.setTop (mkF m 94 (own_L p0 p1 p2 p3 p4 p5 (.val (.int (p0 &&& (7 : Int32)))) (.val kv) (.val .null) (.val (.int (p1 &&& (3 : Int32)))) (.val (.ref c73)) .unset .unset .unset) []))
        refine Goes.go (fun t => XS.aload XL76.here hx rfl (hb hby at_94) rfl rfl ) ?_
        refine Goes.go (fun t => XS.iconst XL76.here hx rfl (hb hby at_96)) ?_
        refine Goes.go (fun t => XS.iload XL76.here hx rfl (hb hby at_97) rfl ) ?_
        show Goes p e below _ (T75.setTop (mkF m 99 (own_L p0 p1 p2 p3 p4 p5 (.val (.int (p0 &&& (7 : Int32)))) (.val kv) (.val .null) (.val (.int (p1 &&& (3 : Int32)))) (.val (.ref c73)) .unset .unset .unset) [(.int p4), (.int (1 : Int32)), (.ref c73)]))
        obtain ⟨_, _, ⟨T77, L77, k77, n77⟩, -, X77, ⟨Lc77, hQ77, l77, y77, z77⟩, st77⟩ := Jvm.LawKit.callS XL76 hx (y := (⟨"com/example/thames/thames/engine/NodeTestListedByTreePinLaw", "xmlChar", "(I)C"⟩ : MethodName)) hown (mvT hZ (own_h hw 8 rfl)) (mvT hZ (own_h hw 9 rfl)) (mvT hZ (own_h hw 2 rfl)) (mvT hZ (own_h hw 10 rfl)) (by decide) (backOf (W := 2) (rmXM l Z a0 hw [] p4 h75 n0 Z75) hZ (own_h hw 10 rfl) (own_h hw 2 rfl) (by decide) (by decide)) (g := (mkF m 99 (own_L p0 p1 p2 p3 p4 p5 (.val (.int (p0 &&& (7 : Int32)))) (.val kv) (.val .null) (.val (.int (p1 &&& (3 : Int32)))) (.val (.ref c73)) .unset .unset .unset) [(.int p4), (.int (1 : Int32)), (.ref c73)])) rfl (by rw [hml]; rfl) (argsL := [(.int p4)]) (rest := [(.int (1 : Int32)), (.ref c73)]) (lenOf pd0_0 rfl) rfl (by show 2 * 0 + _ ≤ _; exact Nat.le_of_eq rfl) (hb hby at_99) (fun _ _ => ⟨rfl, e75, (by decide : 1 + 0 ≤ _), (by decide : 2 + 0 ≤ _)⟩)
        dsimp only [Pt.U, Pt.locs, Pt.cells, Pt.slots] at X77 l77 y77 z77 st77 hQ77
        subst l77 y77 z77
        obtain ⟨ch77, rfl, N77q, e77q, hch77⟩ := hQ77
        have N77 := Fr.app NL76 N77q
        refine Goes.go st77 ?_
        show Goes p e below _ (T77.setTop (mkF m 102 (own_L p0 p1 p2 p3 p4 p5 (.val (.int (p0 &&& (7 : Int32)))) (.val kv) (.val .null) (.val (.int (p1 &&& (3 : Int32)))) (.val (.ref c73)) .unset .unset .unset) [(.int ch77), (.int (1 : Int32)), (.ref c73)]))
        have sf78 : Safe Z own_EL s.vm h75 c73 := Safe.arv hZ.alike V75 (by decide)
        obtain ⟨cl78, Ar78, q78, Sz78, Nn78, Hh78, Gg78⟩ := id V75
        obtain ⟨T78, h78, X78, e78, W78, st78⟩ := stC X77 hx hZ e77q Ar78 (j := (1 : Int32)) (inb_of Sz78 ⟨by decide, by decide⟩) (g := (mkF m 102 (own_L p0 p1 p2 p3 p4 p5 (.val (.int (p0 &&& (7 : Int32)))) (.val kv) (.val .null) (.val (.int (p1 &&& (3 : Int32)))) (.val (.ref c73)) .unset .unset .unset) [(.int ch77), (.int (1 : Int32)), (.ref c73)])) rfl rfl (hb hby at_102)
        rw [own_narch hch77] at W78
        have V78 : Arv Z h78 c73 k73 .char (2 : Int32) [(.int ch74), (.int ch77)] (.int (0 : Int32)) := Arv.set Ar78 q78 Sz78 Nn78 Hh78 Gg78 (own_fitch hch77) W78 1 rfl (Nat.le_of_ble_eq_true rfl)
        have CQ78 := CHr.wr W78 sf78 CH75
        have CH78 := CQ78.1
        have CR78 := CR75.trans CQ78
        have hk := Nat.le_trans hk (Nat.le_of_eq W78.size.symm)
        have Z78 : n0 ≤ h78.size := Nat.le_trans Z75 (Nat.le_of_eq W78.size.symm)
        have B78 : Ext h0 h78 := own_ext_wr B75 W78 gb_c73
        have N78 := Fr.snoc X78 N77 g_c73
        refine Goes.go st78 ?_
        obtain ⟨LL79, XL79, NL79⟩ : ∃ LL : List Loc, Stand p l e room_1 (s.setVm s.vm) m #[(.int p0), (.int p1), (.int p2), (.int p3), (.int p4), (.int p5)] below meth c T78 LL 1 2 ∧ Fr n0 LL := ⟨_, X78, N78⟩
        show Goes p e below _ (T78.setTop (mkF m 103 (own_L p0 p1 p2 p3 p4 p5 (.val (.int (p0 &&& (7 : Int32)))) (.val kv) (.val .null) (.val (.int (p1 &&& (3 : Int32)))) (.val (.ref c73)) .unset .unset .unset) []))
        obtain ⟨T81, h81, X81, e81, E81, A81, D81, -, st81⟩ := newO XL79 hx hZ hown (own_h hw 12 rfl) (own_h hw 13 rfl) (own_h hw 14 rfl) e78 (g := (mkF m 103 (own_L p0 p1 p2 p3 p4 p5 (.val (.int (p0 &&& (7 : Int32)))) (.val kv) (.val .null) (.val (.int (p1 &&& (3 : Int32)))) (.val (.ref c73)) .unset .unset .unset) [])) rfl (hb hby at_103) (by decide) (by decide)
        obtain ⟨x80, gq_x80⟩ : ∃ z, z = h78.size := ⟨_, rfl⟩
        rw [← gq_x80] at A81 D81 st81
        have g_x80 : n0 ≤ x80 := Nat.le_trans Z78 (Nat.le_of_eq gq_x80.symm)
        have gb_x80 : h0.size ≤ x80 := Nat.le_trans B78.1 (Nat.le_of_eq gq_x80.symm)
        have sn_x80 : Safe Z own_EL s.vm h78 x80 := Safe.new (Nat.le_of_eq gq_x80.symm)
        have CQ81 := CHr.ext E81 CH78
        have CH81 := CQ81.1
        have CR81 := CR78.trans CQ81
        have hk := Nat.le_trans hk E81.1
        have SF_x80_81 := Safe.ext E81 CH78 sn_x80
        have Z81 : n0 ≤ h81.size := Nat.le_trans Z78 E81.1
        have B81 : Ext h0 h81 := own_ext_trans B78 E81
        have F_coder_x80_81 : Fld Z h81 x80 "java/lang/String" "coder" "B" (.int (0 : Int32)) := D81 (Or.inr (own_h hw 38 rfl)) (ty := .byte) (by decide)
        have F_value_x80_81 : Fld Z h81 x80 "java/lang/String" "value" "[B" .null := D81 (Or.inr (own_h hw 40 rfl)) (ty := (.array .byte)) (by decide)
        refine Goes.go st81 ?_
        have V82 := V78.ext E81
        show Goes p e below _ (T81.setTop (mkF m 106 (own_L p0 p1 p2 p3 p4 p5 (.val (.int (p0 &&& (7 : Int32)))) (.val kv) (.val .null) (.val (.int (p1 &&& (3 : Int32)))) (.val (.ref c73)) .unset .unset .unset) [(.ref x80)]))
        refine Goes.go (fun t => XS.dup X81.here hx rfl (hb hby at_106) rfl rfl) ?_
        refine Goes.go (fun t => XS.aload X81.here hx rfl (hb hby at_107) rfl rfl ) ?_
        show Goes p e below _ (T81.setTop (mkF m 109 (own_L p0 p1 p2 p3 p4 p5 (.val (.int (p0 &&& (7 : Int32)))) (.val kv) (.val .null) (.val (.int (p1 &&& (3 : Int32)))) (.val (.ref c73)) .unset .unset .unset) [(.ref c73), (.ref x80), (.ref x80)]))
        have hpx80 : ∀ c ∈ ([ch74, ch77] : List Int32), ¬ c < 0 ∧ ¬ (255 : Int32) < c := by
          intro c hc; simp only [List.mem_cons, List.not_mem_nil, or_false] at hc
          rcases hc with rfl | rfl
          · exact hch74.bd
          · exact hch77.bd
        obtain ⟨_, _, ⟨T83, L83, k83, n83⟩, -, X83, ⟨Lc83, hQ83, l83, y83, z83⟩, st83⟩ := X81.specialBack hx (y := (⟨"java/lang/String", "<init>", "([C)V"⟩ : MethodName)) rfl hown (mvT hZ (own_h hw 15 rfl)) (mvT hZ (own_h hw 16 rfl)) (mvT hZ (own_h hw 17 rfl)) (by decide) (StrChars.Road.backV (W := 1) hZ (fun d hd => hw d (own_wNew d hd)) (kI := 4) (own_h hw 13 rfl) (cs := ([ch74, ch77] : List Int32)) (bs := ([ch74, ch77] : List Int32).map (fun c => c.toInt8.toInt32)) (n := 2) g_x80 Z81 A81 F_value_x80_81 F_coder_x80_81 V82 (S_z.ext B81) hz rfl rfl (by decide) (by decide) hpx80 rfl (by decide) (by decide)) (g := (mkF m 109 (own_L p0 p1 p2 p3 p4 p5 (.val (.int (p0 &&& (7 : Int32)))) (.val kv) (.val .null) (.val (.int (p1 &&& (3 : Int32)))) (.val (.ref c73)) .unset .unset .unset) [(.ref c73), (.ref x80), (.ref x80)])) rfl (by rw [hml]; rfl) (Steps.refl _) (a := x80) (argsL := [(.ref c73)]) (rest := [(.ref x80)]) (lenOf pd0_1 rfl) rfl (by show 2 * 0 + _ ≤ _; exact Nat.le_of_eq rfl) (hb hby at_109) (fun _ _ => ⟨rfl, e81, (by decide : 2 + 1 ≤ _), (by decide : 6 + 2 ≤ _)⟩)
        dsimp only [Pt.U, Pt.locs, Pt.cells, Pt.slots] at X83 l83 y83 z83 st83 hQ83
        subst l83 y83 z83
        obtain ⟨rfl, N83q, K83, Ea83, Fc83, t83, kb83, -, -, -, Fv83, Av83⟩ := hQ83
        have N83 := Fr.app NL79 N83q
        refine Goes.via st83 ?_
        have CQ83 := CHr.keep K83 (sfS SF_x80_81 sf0) CH81
        have CH83 := CQ83.1
        have CR83 := CR81.trans CQ83
        have hk := Nat.le_trans hk K83.1
        have Z83 : n0 ≤ T83.heap.size := Nat.le_trans Z81 K83.1
        have B83 : Ext h0 T83.heap := own_ext_keep B81 K83 (allS gb_x80 all0)
        have E_x80_83 : Exa Z T83.heap x80 "java/lang/String" := A81.keep K83
        have Sx83 : own_s Z T83.heap x80 [ch74, ch77] := ⟨Ea83, Fc83, ⟨t83, kb83, Fv83, Av83⟩, hpx80, by show 2 ≤ 4000; decide⟩
        obtain ⟨LL84, XL84, NL84⟩ : ∃ LL : List Loc, Stand p l e room_1 (s.setVm s.vm) m #[(.int p0), (.int p1), (.int p2), (.int p3), (.int p4), (.int p5)] below meth c T83 LL 3 8 ∧ Fr n0 LL := ⟨_, X83, N83⟩
        show Goes p e below _ (T83.setTop (mkF m 112 (own_L p0 p1 p2 p3 p4 p5 (.val (.int (p0 &&& (7 : Int32)))) (.val kv) (.val .null) (.val (.int (p1 &&& (3 : Int32)))) (.val (.ref c73)) .unset .unset .unset) [(.ref x80)]))
        refine Goes.go (fun t => XS.astore XL84.here hx rfl (hb hby at_112) rfl rfl (l' := (own_L p0 p1 p2 p3 p4 p5 (.val (.int (p0 &&& (7 : Int32)))) (.val kv) (.val (.ref x80)) (.val (.int (p1 &&& (3 : Int32)))) (.val (.ref c73)) .unset .unset .unset)) rfl) ?_
        refine Goes.go (fun t => XS.aconstNull XL84.here hx rfl (hb hby at_114)) ?_
        refine Goes.go (fun t => XS.astore XL84.here hx rfl (hb hby at_115) rfl rfl (l' := (own_L p0 p1 p2 p3 p4 p5 (.val (.int (p0 &&& (7 : Int32)))) (.val kv) (.val (.ref x80)) (.val (.int (p1 &&& (3 : Int32)))) (.val .null) .unset .unset .unset)) rfl) ?_
        have Xm := XL84.mono (cells' := 8) (slots' := 40) (by decide) (by decide)
        exact j117 s.vm T83 T83.heap _ _ kv (.ref x80) Xm NL84 rfl hS hk hZ hown CH83 CR83 Z83 (V.ext B83) (S_ELEMENT.ext B83) hkv (Or.inr ⟨_, _, rfl, Sx83, (Or.inr (Or.inr ⟨_, _, rfl, hch74, hch77⟩))⟩) (Or.inr ⟨_, rfl, by rw [hc78]; decide⟩)
      · refine Goes.go (fun t => XS.icmpYes X58.here hx rfl (pc0 := 78) (pc' := 114) rfl (hb hby at_78) rfl (Jvm.Free.XT.ii_ne_t hc78) (by decide) (by decide)) ?_
        show Goes p e below _ (T58.setTop (mkF m 114 (own_L p0 p1 p2 p3 p4 p5 (.val (.int (p0 &&& (7 : Int32)))) (.val kv) (.val .null) (.val (.int (p1 &&& (3 : Int32)))) .unset .unset .unset .unset) []))
        refine Goes.go (fun t => XS.aconstNull X58.here hx rfl (hb hby at_114)) ?_
        refine Goes.go (fun t => XS.astore X58.here hx rfl (hb hby at_115) rfl rfl (l' := (own_L p0 p1 p2 p3 p4 p5 (.val (.int (p0 &&& (7 : Int32)))) (.val kv) (.val .null) (.val (.int (p1 &&& (3 : Int32)))) (.val .null) .unset .unset .unset)) rfl) ?_
        have Xm := X58.mono (cells' := 8) (slots' := 40) (by decide) (by decide)
        exact j117 s.vm T58 h0 _ _ kv .null Xm N58 e58q hS hk hZ hown CH CR0 Z0 (V.ext (⟨Nat.le_refl _, fun _ _ q => q⟩ : Ext h0 h0)) (S_ELEMENT.ext (⟨Nat.le_refl _, fun _ _ q => q⟩ : Ext h0 h0)) hkv (Or.inl rfl) (Or.inl ⟨rfl, own_z3 hc24 hc45 hc78⟩)

theorem own_ord {args : Array Value} {s : State} {t : Term} {C n d : String} {x : Addr} {k : Int32} (ht : t.eval args s none [] s = some (.ref x)) (h : (Jvm.Cond.eq (Term.field t C n d) (Term.int k)).value args s none s [] = some true) : s.fieldOf? x C n d = some (.int k) :=
  (fld_at ht).symm.trans (eqv_i (Term.int_eval k) h)
theorem own_len {args : Array Value} {s : State} {t : Term} {w : Addr} {cl : Cell} {k : Nat} (ew : t.eval args s none [] s = some (.ref w)) (hat : s.arrayAt? w = some cl) (h : (Jvm.Cond.eq (Term.length t) (Term.int (Nat.toInt32 k))).value args s none s [] = some true) (hk : k < 2 ^ 31) : cl.slots.size = k := by
  have g1 := eqv_i (Term.int_eval (Nat.toInt32 k)) h
  have hs : cl.slots.size < 2 ^ 31 := by
    rcases Nat.lt_or_ge cl.slots.size (2 ^ 31) with q | q
    · exact q
    · exact absurd g1 (by simp [Term.eval, ew, hat, Nat.not_lt.mpr q])
  have h1 := (len_f ew hat hs).symm.trans g1
  have h5 := congrArg Int32.toInt (Value.int.inj (Option.some.inj h1))
  rw [len_toInt hs, len_toInt hk] at h5
  omega
theorem own_back_i {i : Nat} (hs : i < 2 ^ 31) : (Nat.toInt32 i).toNatClampNeg = i := by simp only [Int32.toNatClampNeg, len_toInt hs]; rfl
theorem own_rng {args : Array Value} {s : State} {t : Term} {w : Addr} {cl : Cell} {i : Nat} {a b : Int32} (ew : t.eval args s none [i] s = some (.ref w)) (hc : s.heap[w]? = some cl) (hi : i < 128) (ha : a.toInt ≤ (i : Int)) (hb : (i : Int) < b.toInt)
    (h : (Jvm.Cond.or (Jvm.Cond.lt (Term.index 0) (Term.int a)) (Jvm.Cond.or (Jvm.Cond.le (Term.int b) (Term.index 0)) (Jvm.Cond.eq (Term.elem t (Term.index 0)) (Term.int 1)))).value args s none s [i] = some true) : cl.slots[i]? = some (.int 1) := by
  have hj : (Term.index 0).eval args s none [i] s = some (.int i.toInt32) := by simp [Term.eval]
  have ea : (Term.int a).eval args s none [i] s = some (.int a) := Term.int_eval a
  have eb : (Term.int b).eval args s none [i] s = some (.int b) := Term.int_eval b
  have ei : i.toInt32.toInt = (i : Int) := len_toInt (by omega)
  have g1 : (Jvm.Cond.lt (Term.index 0) (Term.int a)).value args s none s [i] = some false := by
    have q : (Jvm.Cond.lt (Term.index 0) (Term.int a)).value args s none s [i] = some (decide (i.toInt32 < a)) := by simp [Cond.value, hj, ea]
    exact nay q (by rw [Int32.lt_iff_toInt_lt]; omega)
  have g2 : (Jvm.Cond.le (Term.int b) (Term.index 0)).value args s none s [i] = some false := by
    have q : (Jvm.Cond.le (Term.int b) (Term.index 0)).value args s none s [i] = some (decide (b ≤ i.toInt32)) := by simp [Cond.value, hj, eb]
    exact nay q (by rw [Int32.le_iff_toInt_le]; omega)
  rw [Cond.or_of_right g1, Cond.or_of_right g2] at h
  have q := (elem_in (eqv_i (Term.int_eval 1) h) ew hj hc).2
  rwa [own_back_i (by omega)] at q
theorem own_one {args : Array Value} {s : State} {t : Term} {w : Addr} {cl : Cell} {a : Int32} (ew : t.eval args s none [] s = some (.ref w)) (hc : s.heap[w]? = some cl) (h : (Jvm.Cond.eq (Term.elem t (Term.int a)) (Term.int 1)).value args s none s [] = some true) : cl.slots[a.toNatClampNeg]? = some (.int 1) :=
  (elem_in (eqv_i (Term.int_eval 1) h) ew (Term.int_eval a) hc).2
theorem own_clamp {c : Int32} {a b : Int} (h1 : a ≤ c.toInt) (h2 : c.toInt ≤ b) (ha : 0 ≤ a) (hb : b < 128) : c.toNatClampNeg < 128 ∧ a ≤ (c.toNatClampNeg : Int) ∧ (c.toNatClampNeg : Int) ≤ b := by
  simp only [Int32.toNatClampNeg]; omega
theorem own_zne {args : Array Value} {s : State} {t : Term} {z : Int32} (ez : t.eval args s none [] s = some (.int z)) (h : (Jvm.Cond.not (Jvm.Cond.eq t (Term.int 0))).value args s none s [] = some true) : ¬ z = 0 := by
  have q := not_v h
  have e0 : (Term.int 0).eval args s none [] s = some (.int 0) := Term.int_eval 0
  exact gotF (P := z = 0) (by simp [Cond.value, ez, e0]) q

set_option maxRecDepth 65536 in
set_option maxHeartbeats 40000000 in
theorem comes_1 {Post : Tables → Env → Array Value → State → Outcome → State → Prop} (hpost : ∀ tb e args s v u, (limb_1_1.after args s (.returned v) u = true ∧ limb_1_2.after args s (.returned v) u = true ∧ True) → FramedW s (.returned v) u (Jvm.fieldLocs frame_1_writes args s ++ Jvm.arrayLocs frame_1_arrays args s ++ Jvm.staticLocs frame_1_statics s) 40 6336 → Post tb e args s (.returned v) u) :
    ArmFor flags0 classFile x code maxLocals ret World_1 tables_1 room_1 Calls_1 rest_1 Pre_1 Post := by
  intro l hfl _ _ p e ha hc hk s m args below hf hA hF happ hP
  obtain ⟨hcalls, hrest, hpre⟩ := hP
  obtain ⟨-, -, -, hnamed, -, -, -, hat⟩ := (Spec.applies_iff hf).mp happ
  obtain ⟨hg, hn⟩ := and_e (Cond.before_iff.mp (show (Jvm.Cond.and given_1 narrow_1).before args s = true from hpre))
  obtain ⟨gc, gv0⟩ := and_e hg
  obtain ⟨ga0, gv1⟩ := and_e gv0
  obtain ⟨ga1, gv2⟩ := and_e gv1
  obtain ⟨ga2, gv3⟩ := and_e gv2
  obtain ⟨ga3, gv4⟩ := and_e gv3
  obtain ⟨ga4, gv5⟩ := and_e gv4
  obtain ⟨w0, w1, w2, w3, w4, w5, rfl⟩ : ∃ w0 w1 w2 w3 w4 w5 : Value, args = #[w0, w1, w2, w3, w4, w5] := by
    have hs : args.size = 6 := by simpa [Cond.value, given_1] using gc
    obtain ⟨L⟩ := args
    match L, hs with
    | [w0, w1, w2, w3, w4, w5], _ => exact ⟨w0, w1, w2, w3, w4, w5, rfl⟩
  have hw := fun d (hd : d ∈ tables_1) => atoms_spec (ws := Jvm.Cond.code x code maxLocals ret :: tables_1) hat d (List.mem_cons_of_mem _ hd)
  have hfit : Fit s := fun {y c} hc i hi => by
    obtain ⟨ha, rfl⟩ := Array.getElem?_eq_some_iff.mp hc
    have q := List.all_eq_true.mp ((Array.all_eq_true_iff_forall_mem.mp hF) _ (Array.getElem_mem ha)) i (List.mem_range.mpr hi)
    simpa [Array.getElem?_eq_getElem hi] using q
  obtain ⟨i0, ei0⟩ := is_v ga0
  obtain rfl : w0 = (.int i0) := Option.some.inj ei0
  obtain ⟨i1, ei1⟩ := is_v ga1
  obtain rfl : w1 = (.int i1) := Option.some.inj ei1
  obtain ⟨i2, ei2⟩ := is_v ga2
  obtain rfl : w2 = (.int i2) := Option.some.inj ei2
  obtain ⟨i3, ei3⟩ := is_v ga3
  obtain rfl : w3 = (.int i3) := Option.some.inj ei3
  obtain ⟨i4, ei4⟩ := is_v ga4
  obtain rfl : w4 = (.int i4) := Option.some.inj ei4
  obtain ⟨i5, ei5⟩ := is_v gv5
  obtain rfl : w5 = (.int i5) := Option.some.inj ei5
  obtain ⟨n1a, n1b⟩ := and_e hn
  obtain ⟨n2a, n2b⟩ := and_e n1b
  obtain ⟨n3a, n3b⟩ := and_e n2b
  obtain ⟨n4a, n4b⟩ := and_e n3b
  obtain ⟨n5a, n5b⟩ := and_e n4b
  obtain ⟨n6a, n6b⟩ := and_e n5b
  obtain ⟨n7a, n7b⟩ := and_e n6b
  obtain ⟨n8a, n8b⟩ := and_e n7b
  obtain ⟨n9a, n9b⟩ := and_e n8b
  obtain ⟨n10a, n10b⟩ := and_e n9b
  obtain ⟨n11a, n11b⟩ := and_e n10b
  obtain ⟨n12a, n12b⟩ := and_e n11b
  obtain ⟨n13a, n13b⟩ := and_e n12b
  obtain ⟨n14a, n14b⟩ := and_e n13b
  obtain ⟨n15a, n15b⟩ := and_e n14b
  obtain ⟨n16a, n16b⟩ := and_e n15b
  obtain ⟨n17a, n17b⟩ := and_e n16b
  obtain ⟨n18a, n18b⟩ := and_e n17b
  obtain ⟨n19a, n19b⟩ := and_e n18b
  obtain ⟨n20a, n20b⟩ := and_e n19b
  obtain ⟨n21a, n21b⟩ := and_e n20b
  obtain ⟨n22a, n22b⟩ := and_e n21b
  obtain ⟨n23a, n23b⟩ := and_e n22b
  obtain ⟨n24a, n24b⟩ := and_e n23b
  obtain ⟨n25a, n25b⟩ := and_e n24b
  obtain ⟨n26a, n26b⟩ := and_e n25b
  obtain ⟨n27a, n27b⟩ := and_e n26b
  obtain ⟨n28a, n28b⟩ := and_e n27b
  obtain ⟨n29a, n29b⟩ := and_e n28b
  obtain ⟨n30a, n30b⟩ := and_e n29b
  obtain ⟨n31a, n31b⟩ := and_e n30b
  obtain ⟨n32a, n32b⟩ := and_e n31b
  obtain ⟨n33a, n33b⟩ := and_e n32b
  obtain ⟨n34a, n34b⟩ := and_e n33b
  obtain ⟨n35a, n35b⟩ := and_e n34b
  obtain ⟨n36a, n36b⟩ := and_e n35b
  obtain ⟨hsets, hown0⟩ := atoms_of _ (rest_1_c_eq ▸ (show rest_1_c.before _ s = true from hrest))
  obtain ⟨z, ez⟩ := is_v (Cond.before_iff.mp (hsets _ (List.mem_of_getElem? (i := 1) rfl)))
  have hz := own_zne ez (Cond.before_iff.mp (hsets _ (List.mem_of_getElem? (i := 2) rfl)))
  obtain ⟨fm, ef, rf⟩ := isR_v (Cond.before_iff.mp (hsets _ (List.mem_of_getElem? (i := 8) rfl)))
  obtain ⟨wS, ewS⟩ := arr_v n15a
  obtain ⟨cS, AcS⟩ := Arr.start ewS n15a
  have hAtS := AcS.fin (Vm.Alike.refl _)
  have SzS : cS.slots.size = 128 := own_len ewS hAtS n16a (by decide)
  have atS : ∀ c : Int32, own_st c → cS.slots[c.toNatClampNeg]? = some (.int 1) := by
    rintro c (⟨g1, g2⟩ | ⟨g1, g2⟩ | g1)
    · exact (by obtain ⟨q1, q2, q3⟩ := own_clamp (a := 65) (b := 90) g1 g2 (by decide) (by decide); exact own_rng (a := 65) (b := 91) ewS AcS.1 q1 q2 (Int.lt_of_le_of_lt q3 (by decide)) (Cond.all_elim ewS hAtS n20a _ (by rw [SzS]; exact q1)))
    · exact (by obtain ⟨q1, q2, q3⟩ := own_clamp (a := 97) (b := 122) g1 g2 (by decide) (by decide); exact own_rng (a := 97) (b := 123) ewS AcS.1 q1 q2 (Int.lt_of_le_of_lt q3 (by decide)) (Cond.all_elim ewS hAtS n24a _ (by rw [SzS]; exact q1)))
    · exact (by have e : c = 95 := Int32.toInt_inj.mp g1; subst e; exact own_one (a := 95) ewS AcS.1 n22a)
  obtain ⟨wN, ewN⟩ := arr_v n17a
  obtain ⟨cN, AcN⟩ := Arr.start ewN n17a
  have hAtN := AcN.fin (Vm.Alike.refl _)
  have SzN : cN.slots.size = 128 := own_len ewN hAtN n18a (by decide)
  have atN : ∀ c : Int32, own_nm c → cN.slots[c.toNatClampNeg]? = some (.int 1) := by
    rintro c ((⟨g1, g2⟩ | ⟨g1, g2⟩ | g1) | ⟨g1, g2⟩ | g1)
    · exact (by obtain ⟨q1, q2, q3⟩ := own_clamp (a := 65) (b := 90) g1 g2 (by decide) (by decide); exact own_rng (a := 65) (b := 91) ewN AcN.1 q1 q2 (Int.lt_of_le_of_lt q3 (by decide)) (Cond.all_elim ewN hAtN n32a _ (by rw [SzN]; exact q1)))
    · exact (by obtain ⟨q1, q2, q3⟩ := own_clamp (a := 97) (b := 122) g1 g2 (by decide) (by decide); exact own_rng (a := 97) (b := 123) ewN AcN.1 q1 q2 (Int.lt_of_le_of_lt q3 (by decide)) (Cond.all_elim ewN hAtN n36a _ (by rw [SzN]; exact q1)))
    · exact (by have e : c = 95 := Int32.toInt_inj.mp g1; subst e; exact own_one (a := 95) ewN AcN.1 n34a)
    · exact (by obtain ⟨q1, q2, q3⟩ := own_clamp (a := 48) (b := 57) g1 g2 (by decide) (by decide); exact own_rng (a := 48) (b := 58) ewN AcN.1 q1 q2 (Int.lt_of_le_of_lt q3 (by decide)) (Cond.all_elim ewN hAtN n30a _ (by rw [SzN]; exact q1)))
    · exact (by have e : c = 45 := Int32.toInt_inj.mp g1; subst e; exact own_one (a := 45) ewN AcN.1 n27a)
  obtain ⟨v_DOCUMENT, t_DOCUMENT⟩ := exa_v n1a
  obtain ⟨v_ELEMENT, t_ELEMENT⟩ := exa_v n2a
  obtain ⟨v_ATTRIBUTE, t_ATTRIBUTE⟩ := exa_v n9a
  obtain ⟨v_TEXT, t_TEXT⟩ := exa_v n13a
  obtain ⟨v_COMMENT, t_COMMENT⟩ := exa_v n5a
  obtain ⟨v_PROCESSING_INSTRUCTION, t_PROCESSING_INSTRUCTION⟩ := exa_v n7a
  obtain ⟨v_NAMESPACE, t_NAMESPACE⟩ := exa_v n11a
  have V : own_env s s.heap z fm wS wN cS cN := ⟨Sta.start ez (Or.inl (hsets _ (List.mem_of_getElem? (i := 0) rfl))), hz, Sta.start ef (Or.inl (hsets _ (List.mem_of_getElem? (i := 7) rfl))), rf, Sta.start ewS (Or.inr ⟨(own_h hw 155 rfl), (own_h hw 158 rfl)⟩), AcS, SzS, atS, Sta.start ewN (Or.inr ⟨(own_h hw 155 rfl), (own_h hw 167 rfl)⟩), AcN, SzN, atN⟩
  have CH : CHv s own_EL s.vm s.heap := CHv.start (own_ew hw) (fun p hp => hcalls.1 p ((by decide : ∀ p ∈ own_EL, p ∈ consts_1) p hp)) (hsets _ (List.mem_of_getElem? (i := 2) rfl)) (own_h hw 30 rfl) (own_h hw 13 rfl)
  obtain ⟨n, o, h1, h2, h3, _, L, rfl, ⟨rfl, N⟩, -, hq⟩ := rm0 l s _ hw tables_1 i0 i1 i2 i3 i4 i5 z fm wS wN cS cN v_DOCUMENT v_ELEMENT v_ATTRIBUTE v_TEXT v_COMMENT v_PROCESSING_INSTRUCTION v_NAMESPACE (fun a => s.fieldOf? a "java/lang/Enum" "ordinal" "I") s.heap s.heap.size (Nat.le_refl _) V (Sta.start t_DOCUMENT (Or.inr ⟨(own_h hw 5 rfl), (own_h hw 6 rfl)⟩)) (Sta.start t_ELEMENT (Or.inr ⟨(own_h hw 5 rfl), (own_h hw 73 rfl)⟩)) (Sta.start t_ATTRIBUTE (Or.inr ⟨(own_h hw 5 rfl), (own_h hw 86 rfl)⟩)) (Sta.start t_TEXT (Or.inr ⟨(own_h hw 5 rfl), (own_h hw 93 rfl)⟩)) (Sta.start t_COMMENT (Or.inr ⟨(own_h hw 5 rfl), (own_h hw 82 rfl)⟩)) (Sta.start t_PROCESSING_INSTRUCTION (Or.inr ⟨(own_h hw 5 rfl), (own_h hw 84 rfl)⟩)) (Sta.start t_NAMESPACE (Or.inr ⟨(own_h hw 5 rfl), (own_h hw 88 rfl)⟩)) (own_ord t_DOCUMENT n3a) (own_ord t_ELEMENT n4a) (own_ord t_ATTRIBUTE n10a) (own_ord t_TEXT n14a) (own_ord t_COMMENT n6a) (own_ord t_PROCESSING_INSTRUCTION n8a) (own_ord t_NAMESPACE n12a) p e ha hc hk s m _ below hf ((Spec.applies_iff_loose hf).mp happ).1 ⟨rfl, State.Warmed39.refl s, rfl, CH⟩ trivial
  refine ⟨n, _, h1, h2, h3, hpost _ _ _ _ _ _ ⟨Cond.after_iff.mpr rfl, Cond.after_iff.mpr (eq_i res_at (Term.int_eval (1)) rfl), trivial⟩ ⟨hq.1, hq.2.1, hq.2.2.1, (hq.2.2.2.sift fun y hy => Or.inr (N y hy)).mono (by decide) (by decide)⟩⟩
theorem main_1_1 : Claimed_1_1 := comes_1 fun _ _ _ _ _ _ h hF => ⟨h.1, hF⟩
theorem main_1_2 : Claimed_1_2 := comes_1 fun _ _ _ _ _ _ h hF => ⟨h.2.1, hF⟩

end Jvm.Pilot.@@N@@
namespace Jvm.Pilot.@@N@@
open Jvm Jvm.ClassFile Sem Op Lib Jvm.Free Jvm.Stand Jvm.Pilot.@@N@@.Jvm.D
/-! MADE BY PROGRAM (witnessworld.py) out of the Statement's table words and the real class files: 29 classes; the members and pool entries that the words name. The judged class is class 1, her method 5. -/
namespace start1
open Jvm.ClassFile
def u (s : String) : CpInfo := .utf8 (stringToUtf16 s)
/-- a pool by its gaps: so many unusable entries, then the entry; so many at the end -/
def gap : Nat → List CpInfo → List CpInfo
  | 0, r => r
  | n + 1, r => .unusable :: gap n r
def poolList (es : List (Nat × CpInfo)) (last : Nat) : List CpInfo := es.foldr (fun e r => gap e.1 (e.2 :: r)) (gap last [])
def pool (es : List (Nat × CpInfo)) (last : Nat) : Array CpInfo := ⟨poolList es last⟩
def fileOf (pool : Array CpInfo) (this : Nat) (attrs : Array Attribute := #[]) (ms : Array MethodInfo := #[]) (fl : Nat := 33) (sup : Nat := 0) (ifs : Array Nat := #[]) (fds : Array FieldInfo := #[]) : ClassFile where
  minorVersion := 0
  majorVersion := 65
  constantPool := pool
  accessFlags := fl
  thisClass := this
  superClass := sup
  interfaces := ifs
  fields := fds
  methods := ms
  attributes := attrs
def plain (name : String) (sup : Option ClassId) : Class where
  name := name
  kind := .ordinary
  loader := none
  accessFlags := 33
  super := sup
  interfaces := #[]
  cf := none
  fields := #[]
  methods := #[]
  instanceTypes := #[]
  staticTypes := #[]
  resolved := #[]
  callSites := []
  init := .initialized
  statics := none
  mirror := none

def pool0 : Array CpInfo := pool [(5, u "<init>"), (0, u "()V"), (1, .class_ 10), (1, u "java/lang/Object")] 113

def k0c0 : Code := { maxStack := 0, maxLocals := 1, code := object_method_1_code, exceptionTable := #[], attributes := #[] }
def k0m0 : Method := { name := "<init>", desc := "()V", sig := { parameters := [], returnType := none }, accessFlags := 1, code := some k0c0 }
/-- java/lang/Object -/
def k0 : Class := { plain "java/lang/Object" none with
  accessFlags := 33
  interfaces := #[]
  cf := some (fileOf pool0 8 #[] #[{ accessFlags := 1, nameIndex := 5, descriptorIndex := 6, attributes := #[] }] 33 0 #[] #[])
  fields := #[]
  methods := #[k0m0]
  instanceTypes := #[]
  staticTypes := #[]
  resolved := Array.replicate 124 none
  statics := none }

def pool1 : Array CpInfo := pool [(2, .class_ 4), (1, u "java/lang/Object"), (0, u "<init>"), (0, u "()V"), (0, .fieldref 8 9), (0, .class_ 10), (0, .nameAndType 11 12), (0, u "com/example/thames/thames/model/NodeKind"), (0, u "DOCUMENT"), (0, u "Lcom/example/thames/thames/model/NodeKind;"), (0, .fieldref 8 14), (0, .nameAndType 15 12), (0, u "ELEMENT"), (0, .fieldref 8 17), (0, .nameAndType 18 12), (0, u "ATTRIBUTE"), (0, .fieldref 8 20), (0, .nameAndType 21 12), (0, u "TEXT"), (0, .fieldref 8 23), (0, .nameAndType 24 12), (0, u "COMMENT"), (0, .fieldref 8 26), (0, .nameAndType 27 12), (0, u "PROCESSING_INSTRUCTION"), (0, .fieldref 8 29), (0, .nameAndType 30 12), (0, u "NAMESPACE"), (0, .integer 2147483647), (0, .methodref 33 34), (0, .class_ 35), (0, .nameAndType 36 37), (0, u "com/example/thames/thames/engine/NodeTestListedByTreePinLaw"), (0, u "startChar"), (0, u "(I)C"), (0, .methodref 33 39), (0, .nameAndType 40 41), (0, u "kindOf"), (0, u "(I)Lcom/example/thames/thames/model/NodeKind;"), (0, .class_ 43), (0, u "java/lang/String"), (0, .methodref 42 45), (0, .nameAndType 5 46), (0, u "([C)V"), (0, .methodref 33 48), (0, .nameAndType 49 37), (0, u "xmlChar"), (0, .integer 65535), (0, .methodref 33 52), (0, .nameAndType 53 37), (0, u "nameChar"), (0, .class_ 55), (0, u "com/example/thames/thames/engine/NodeTest"), (0, .methodref 54 57), (0, .nameAndType 5 58), (0, u "(Lcom/example/thames/thames/model/NodeKind;Ljava/lang/String;Ljava/lang/String;)V"), (0, .methodref 54 60), (0, .nameAndType 61 62), (0, u "listedByTree"), (0, u "()Z"), (3, u "law"), (0, u "(IIIIII)Z")] 2

def k1m0 : Method := { name := "<init>", desc := "()V", sig := { parameters := [], returnType := none }, accessFlags := 1, code := none }
def k1c1 : Code := { maxStack := 2, maxLocals := 1, code := method_2_code, exceptionTable := #[], attributes := #[] }
def k1m1 : Method := { name := "kindOf", desc := "(I)Lcom/example/thames/thames/model/NodeKind;", sig := { parameters := [.int], returnType := some (.object "com/example/thames/thames/model/NodeKind") }, accessFlags := 10, code := some k1c1 }
def k1c2 : Code := { maxStack := 3, maxLocals := 1, code := method_3_code, exceptionTable := #[], attributes := #[] }
def k1m2 : Method := { name := "xmlChar", desc := "(I)C", sig := { parameters := [.int], returnType := some .char }, accessFlags := 10, code := some k1c2 }
def k1c3 : Code := { maxStack := 3, maxLocals := 2, code := method_4_code, exceptionTable := #[], attributes := #[] }
def k1m3 : Method := { name := "startChar", desc := "(I)C", sig := { parameters := [.int], returnType := some .char }, accessFlags := 10, code := some k1c3 }
def k1c4 : Code := { maxStack := 3, maxLocals := 2, code := method_5_code, exceptionTable := #[], attributes := #[] }
def k1m4 : Method := { name := "nameChar", desc := "(I)C", sig := { parameters := [.int], returnType := some .char }, accessFlags := 10, code := some k1c4 }
def k1c5 : Code := { maxStack := 5, maxLocals := 14, code := code, exceptionTable := #[], attributes := #[] }
def k1m5 : Method := { name := "law", desc := "(IIIIII)Z", sig := { parameters := [.int, .int, .int, .int, .int, .int], returnType := some .boolean }, accessFlags := 9, code := some k1c5 }
/-- com/example/thames/thames/engine/NodeTestListedByTreePinLaw -/
def k1 : Class := { plain "com/example/thames/thames/engine/NodeTestListedByTreePinLaw" (some 0) with
  accessFlags := 49
  interfaces := #[]
  cf := some (fileOf pool1 33 #[] #[{ accessFlags := 1, nameIndex := 5, descriptorIndex := 6, attributes := #[] }, { accessFlags := 10, nameIndex := 40, descriptorIndex := 41, attributes := #[] }, { accessFlags := 10, nameIndex := 49, descriptorIndex := 37, attributes := #[] }, { accessFlags := 10, nameIndex := 36, descriptorIndex := 37, attributes := #[] }, { accessFlags := 10, nameIndex := 53, descriptorIndex := 37, attributes := #[] }, { accessFlags := 9, nameIndex := 66, descriptorIndex := 67, attributes := #[] }] 49 2 #[] #[])
  fields := #[]
  methods := #[k1m0, k1m1, k1m2, k1m3, k1m4, k1m5]
  instanceTypes := #[]
  staticTypes := #[]
  resolved := Array.replicate 70 none
  statics := none }

def pool2 : Array CpInfo := pool [(1, .class_ 2), (0, u "java/lang/constant/Constable"), (0, .class_ 4), (0, u "java/lang/Object")] 6

/-- java/lang/constant/Constable -/
def k2 : Class := { plain "java/lang/constant/Constable" (some 0) with
  accessFlags := 1537
  interfaces := #[]
  cf := some (fileOf pool2 1 #[] #[] 1537 3 #[] #[])
  fields := #[]
  methods := #[]
  instanceTypes := #[]
  staticTypes := #[]
  resolved := Array.replicate 11 none
  statics := none }

def pool3 : Array CpInfo := pool [(1, .class_ 2), (0, u "java/lang/Comparable"), (0, .class_ 4), (0, u "java/lang/Object")] 7

/-- java/lang/Comparable -/
def k3 : Class := { plain "java/lang/Comparable" (some 0) with
  accessFlags := 1537
  interfaces := #[]
  cf := some (fileOf pool3 1 #[] #[] 1537 3 #[] #[])
  fields := #[]
  methods := #[]
  instanceTypes := #[]
  staticTypes := #[]
  resolved := Array.replicate 12 none
  statics := none }

def pool4 : Array CpInfo := pool [(1, .class_ 2), (0, u "java/io/Serializable"), (0, .class_ 4), (0, u "java/lang/Object")] 2

/-- java/io/Serializable -/
def k4 : Class := { plain "java/io/Serializable" (some 0) with
  accessFlags := 1537
  interfaces := #[]
  cf := some (fileOf pool4 1 #[] #[] 1537 3 #[] #[])
  fields := #[]
  methods := #[]
  instanceTypes := #[]
  staticTypes := #[]
  resolved := Array.replicate 7 none
  statics := none }

def pool5 : Array CpInfo := pool [(2, .class_ 4), (1, u "java/lang/Enum"), (0, u "name"), (0, u "Ljava/lang/String;"), (2, u "ordinal"), (0, u "I"), (1, .class_ 14), (1, u "java/lang/Object"), (4, u "hash"), (86, .class_ 108), (1, u "java/lang/Enum$EnumDesc"), (2, .class_ 112), (0, u "java/lang/constant/Constable"), (0, .class_ 114), (0, u "java/lang/Comparable"), (0, .class_ 116), (0, u "java/io/Serializable")] 87

/-- java/lang/Enum -/
def k5 : Class := { plain "java/lang/Enum" (some 0) with
  accessFlags := 1057
  interfaces := #[2, 3, 4]
  cf := some (fileOf pool5 2 #[.nestMembers #[106]] #[] 1057 12 #[111, 113, 115] #[{ accessFlags := 18, nameIndex := 5, descriptorIndex := 6, attributes := #[] }, { accessFlags := 18, nameIndex := 9, descriptorIndex := 10, attributes := #[] }, { accessFlags := 2, nameIndex := 19, descriptorIndex := 10, attributes := #[] }])
  fields := #[{ name := "name", type := (.object "java/lang/String"), accessFlags := 18, slot := 0, constantValue := 0 }, { name := "ordinal", type := .int, accessFlags := 18, slot := 1, constantValue := 0 }, { name := "hash", type := .int, accessFlags := 2, slot := 2, constantValue := 0 }]
  methods := #[]
  instanceTypes := #[(.object "java/lang/String"), .int, .int]
  staticTypes := #[]
  resolved := Array.replicate 204 none
  statics := none }

def pool6 : Array CpInfo := pool [(1, .class_ 2), (0, u "com/example/thames/thames/model/NodeKind"), (2, u "DOCUMENT"), (0, u "Lcom/example/thames/thames/model/NodeKind;"), (2, u "ELEMENT"), (2, u "ATTRIBUTE"), (2, u "TEXT"), (2, u "COMMENT"), (2, u "PROCESSING_INSTRUCTION"), (2, u "NAMESPACE"), (2, u "$VALUES"), (0, u "[Lcom/example/thames/thames/model/NodeKind;"), (6, .class_ 37), (1, u "java/lang/Enum")] 29

/-- com/example/thames/thames/model/NodeKind -/
def k6 : Class := { plain "com/example/thames/thames/model/NodeKind" (some 5) with
  accessFlags := 16433
  interfaces := #[]
  cf := some (fileOf pool6 1 #[] #[] 16433 35 #[] #[{ accessFlags := 16409, nameIndex := 5, descriptorIndex := 6, attributes := #[] }, { accessFlags := 16409, nameIndex := 9, descriptorIndex := 6, attributes := #[] }, { accessFlags := 16409, nameIndex := 12, descriptorIndex := 6, attributes := #[] }, { accessFlags := 16409, nameIndex := 15, descriptorIndex := 6, attributes := #[] }, { accessFlags := 16409, nameIndex := 18, descriptorIndex := 6, attributes := #[] }, { accessFlags := 16409, nameIndex := 21, descriptorIndex := 6, attributes := #[] }, { accessFlags := 16409, nameIndex := 24, descriptorIndex := 6, attributes := #[] }, { accessFlags := 4122, nameIndex := 27, descriptorIndex := 28, attributes := #[] }])
  fields := #[{ name := "DOCUMENT", type := (.object "com/example/thames/thames/model/NodeKind"), accessFlags := 16409, slot := 0, constantValue := 0 }, { name := "ELEMENT", type := (.object "com/example/thames/thames/model/NodeKind"), accessFlags := 16409, slot := 1, constantValue := 0 }, { name := "ATTRIBUTE", type := (.object "com/example/thames/thames/model/NodeKind"), accessFlags := 16409, slot := 2, constantValue := 0 }, { name := "TEXT", type := (.object "com/example/thames/thames/model/NodeKind"), accessFlags := 16409, slot := 3, constantValue := 0 }, { name := "COMMENT", type := (.object "com/example/thames/thames/model/NodeKind"), accessFlags := 16409, slot := 4, constantValue := 0 }, { name := "PROCESSING_INSTRUCTION", type := (.object "com/example/thames/thames/model/NodeKind"), accessFlags := 16409, slot := 5, constantValue := 0 }, { name := "NAMESPACE", type := (.object "com/example/thames/thames/model/NodeKind"), accessFlags := 16409, slot := 6, constantValue := 0 }, { name := "$VALUES", type := (.array (.object "com/example/thames/thames/model/NodeKind")), accessFlags := 4122, slot := 7, constantValue := 0 }]
  methods := #[]
  instanceTypes := #[(.object "java/lang/String"), .int, .int]
  staticTypes := #[(.object "com/example/thames/thames/model/NodeKind"), (.object "com/example/thames/thames/model/NodeKind"), (.object "com/example/thames/thames/model/NodeKind"), (.object "com/example/thames/thames/model/NodeKind"), (.object "com/example/thames/thames/model/NodeKind"), (.object "com/example/thames/thames/model/NodeKind"), (.object "com/example/thames/thames/model/NodeKind"), (.array (.object "com/example/thames/thames/model/NodeKind"))]
  resolved := Array.replicate 67 none
  statics := some 0 }

def pool7 : Array CpInfo := pool [(2, .class_ 4), (1, u "java/lang/CharSequence"), (0, u "length"), (0, u "()I"), (38, u "charAt"), (0, u "(I)C"), (0, .class_ 48), (0, u "java/lang/CharSequence$1CodePointIterator"), (10, .class_ 60), (0, u "java/lang/CharSequence$1CharIterator"), (5, .class_ 67), (0, u "java/lang/Object")] 63

def k7m0 : Method := { name := "length", desc := "()I", sig := { parameters := [], returnType := some .int }, accessFlags := 1025, code := none }
def k7m1 : Method := { name := "charAt", desc := "(I)C", sig := { parameters := [.int], returnType := some .char }, accessFlags := 1025, code := none }
/-- java/lang/CharSequence -/
def k7 : Class := { plain "java/lang/CharSequence" (some 0) with
  accessFlags := 1537
  interfaces := #[]
  cf := some (fileOf pool7 2 #[.nestMembers #[47, 59]] #[{ accessFlags := 1025, nameIndex := 5, descriptorIndex := 6, attributes := #[] }, { accessFlags := 1025, nameIndex := 45, descriptorIndex := 46, attributes := #[] }] 1537 66 #[] #[])
  fields := #[]
  methods := #[k7m0, k7m1]
  instanceTypes := #[]
  staticTypes := #[]
  resolved := Array.replicate 131 none
  statics := none }

def pool8 : Array CpInfo := pool [(1, .class_ 2), (0, u "java/lang/constant/ConstantDesc"), (0, .class_ 4), (0, u "java/lang/Object")] 32

/-- java/lang/constant/ConstantDesc -/
def k8 : Class := { plain "java/lang/constant/ConstantDesc" (some 0) with
  accessFlags := 1537
  interfaces := #[]
  cf := some (fileOf pool8 1 #[] #[] 1537 3 #[] #[])
  fields := #[]
  methods := #[]
  instanceTypes := #[]
  staticTypes := #[]
  resolved := Array.replicate 37 none
  statics := none }

def pool9 : Array CpInfo := pool [(1, .methodref 2 3), (0, .class_ 4), (0, .nameAndType 5 6), (0, u "java/lang/Object"), (0, u "<init>"), (0, u "()V"), (0, .string 8), (0, u ""), (0, .fieldref 10 11), (0, .class_ 12), (0, .nameAndType 13 14), (0, u "java/lang/String"), (0, u "value"), (0, u "[B"), (0, .fieldref 10 16), (0, .nameAndType 17 18), (0, u "coder"), (0, u "B"), (2, u "hash"), (0, u "I"), (2, u "hashIsZero"), (0, u "Z"), (0, .methodref 10 28), (0, .nameAndType 5 29), (0, u "([CIILjava/lang/Void;)V"), (8, .fieldref 10 39), (0, .nameAndType 40 26), (0, u "COMPACT_STRINGS"), (1, .class_ 44), (1, u "java/lang/StringUTF16"), (0, u "compress"), (1, .methodref 42 48), (0, .nameAndType 49 50), (0, u "coderFromArrayLen"), (0, u "([BI)B"), (56, .class_ 109), (1, u "java/lang/StringLatin1"), (32, u "()Z"), (34, .methodref 42 178), (0, .nameAndType 45 179), (0, u "([CII)[B"), (154, u "()I"), (0, .methodref 10 336), (0, .nameAndType 17 337), (0, u "()B"), (25, u "([BI)C"), (27, u "(II)V"), (35, u "(I)C"), (64, .methodref 10 493), (0, .nameAndType 494 142), (0, u "isLatin1"), (0, .methodref 107 496), (0, .nameAndType 497 363), (0, u "charAt"), (1, .methodref 10 500), (0, .nameAndType 501 391), (0, u "checkIndex"), (2, u "codePointAt"), (2, u "length"), (67, .class_ 576), (0, u "java/lang/CharSequence"), (22, u "CASE_INSENSITIVE_ORDER"), (0, u "Ljava/util/Comparator;"), (91, u "isEmpty"), (72, u "(I)I"), (244, u "([C)V"), (42, .fieldref 1054 1055), (0, .class_ 1056), (0, .nameAndType 1057 1058), (0, u "jdk/internal/util/Preconditions"), (0, u "SIOOBE_FORMATTER"), (0, u "Ljava/util/function/BiFunction;"), (0, .methodref 1054 1060), (0, .nameAndType 501 1061), (0, u "(IILjava/util/function/BiFunction;)I"), (39, u "serialPersistentFields"), (0, u "[Ljava/io/ObjectStreamField;"), (0, .class_ 1104), (0, u "java/lang/String$CaseInsensitiveComparator"), (1, .class_ 1107), (0, u "java/io/Serializable"), (0, .class_ 1109), (0, u "java/lang/Comparable"), (0, .class_ 1111), (0, u "java/lang/constant/Constable"), (0, .class_ 1113), (0, u "java/lang/constant/ConstantDesc"), (2, u "serialVersionUID"), (0, u "J"), (3, u "REPL"), (0, u "C"), (2, u "LATIN1"), (1, u "UTF16")] 323

def k9m0 : Method := { name := "<init>", desc := "()V", sig := { parameters := [], returnType := none }, accessFlags := 1, code := none }
def k9c1 : Code := { maxStack := 5, maxLocals := 2, code := jdk_42_method_3_code, exceptionTable := #[], attributes := #[] }
def k9m1 : Method := { name := "<init>", desc := "([C)V", sig := { parameters := [(.array .char)], returnType := none }, accessFlags := 1, code := some k9c1 }
def k9c2 : Code := { maxStack := 2, maxLocals := 1, code := jdk_42_method_54_code, exceptionTable := #[], attributes := #[] }
def k9m2 : Method := { name := "length", desc := "()I", sig := { parameters := [], returnType := some .int }, accessFlags := 1, code := some k9c2 }
def k9c3 : Code := { maxStack := 1, maxLocals := 1, code := jdk_42_method_55_code, exceptionTable := #[], attributes := #[] }
def k9m3 : Method := { name := "isEmpty", desc := "()Z", sig := { parameters := [], returnType := some .boolean }, accessFlags := 1, code := some k9c3 }
def k9c4 : Code := { maxStack := 2, maxLocals := 2, code := jdk_42_method_56_code, exceptionTable := #[], attributes := #[] }
def k9m4 : Method := { name := "charAt", desc := "(I)C", sig := { parameters := [.int], returnType := some .char }, accessFlags := 1, code := some k9c4 }
def k9c5 : Code := { maxStack := 3, maxLocals := 3, code := jdk_42_method_57_code, exceptionTable := #[], attributes := #[] }
def k9m5 : Method := { name := "codePointAt", desc := "(I)I", sig := { parameters := [.int], returnType := some .int }, accessFlags := 1, code := some k9c5 }
def k9c6 : Code := { maxStack := 4, maxLocals := 6, code := jdk_42_method_149_code, exceptionTable := #[], attributes := #[] }
def k9m6 : Method := { name := "<init>", desc := "([CIILjava/lang/Void;)V", sig := { parameters := [(.array .char), .int, .int, (.object "java/lang/Void")], returnType := none }, accessFlags := 2, code := some k9c6 }
def k9c7 : Code := { maxStack := 1, maxLocals := 1, code := jdk_42_method_152_code, exceptionTable := #[], attributes := #[] }
def k9m7 : Method := { name := "coder", desc := "()B", sig := { parameters := [], returnType := some .byte }, accessFlags := 0, code := some k9c7 }
def k9c8 : Code := { maxStack := 1, maxLocals := 1, code := jdk_42_method_154_code, exceptionTable := #[], attributes := #[] }
def k9m8 : Method := { name := "isLatin1", desc := "()Z", sig := { parameters := [], returnType := some .boolean }, accessFlags := 0, code := some k9c8 }
def k9c9 : Code := { maxStack := 3, maxLocals := 2, code := jdk_42_method_155_code, exceptionTable := #[], attributes := #[] }
def k9m9 : Method := { name := "checkIndex", desc := "(II)V", sig := { parameters := [.int, .int], returnType := none }, accessFlags := 8, code := some k9c9 }
/-- java/lang/String -/
def k9 : Class := { plain "java/lang/String" (some 0) with
  accessFlags := 49
  interfaces := #[4, 3, 7, 2, 8]
  cf := some (fileOf pool9 10 #[.nestMembers #[1103]] #[{ accessFlags := 1, nameIndex := 5, descriptorIndex := 6, attributes := #[] }, { accessFlags := 1, nameIndex := 5, descriptorIndex := 1010, attributes := #[] }, { accessFlags := 1, nameIndex := 507, descriptorIndex := 334, attributes := #[] }, { accessFlags := 1, nameIndex := 692, descriptorIndex := 142, attributes := #[] }, { accessFlags := 1, nameIndex := 497, descriptorIndex := 427, attributes := #[] }, { accessFlags := 1, nameIndex := 504, descriptorIndex := 765, attributes := #[] }, { accessFlags := 2, nameIndex := 5, descriptorIndex := 29, attributes := #[] }, { accessFlags := 0, nameIndex := 17, descriptorIndex := 337, attributes := #[] }, { accessFlags := 0, nameIndex := 494, descriptorIndex := 142, attributes := #[] }, { accessFlags := 8, nameIndex := 501, descriptorIndex := 391, attributes := #[] }] 49 2 #[1106, 1108, 575, 1110, 1112] #[{ accessFlags := 18, nameIndex := 13, descriptorIndex := 14, attributes := #[] }, { accessFlags := 18, nameIndex := 17, descriptorIndex := 18, attributes := #[] }, { accessFlags := 2, nameIndex := 21, descriptorIndex := 22, attributes := #[] }, { accessFlags := 2, nameIndex := 25, descriptorIndex := 26, attributes := #[] }, { accessFlags := 26, nameIndex := 1116, descriptorIndex := 1117, attributes := #[] }, { accessFlags := 24, nameIndex := 40, descriptorIndex := 26, attributes := #[] }, { accessFlags := 26, nameIndex := 1101, descriptorIndex := 1102, attributes := #[] }, { accessFlags := 26, nameIndex := 1121, descriptorIndex := 1122, attributes := #[] }, { accessFlags := 25, nameIndex := 599, descriptorIndex := 600, attributes := #[] }, { accessFlags := 24, nameIndex := 1125, descriptorIndex := 18, attributes := #[] }, { accessFlags := 24, nameIndex := 1127, descriptorIndex := 18, attributes := #[] }])
  fields := #[{ name := "value", type := (.array .byte), accessFlags := 18, slot := 0, constantValue := 0 }, { name := "coder", type := .byte, accessFlags := 18, slot := 1, constantValue := 0 }, { name := "hash", type := .int, accessFlags := 2, slot := 2, constantValue := 0 }, { name := "hashIsZero", type := .boolean, accessFlags := 2, slot := 3, constantValue := 0 }, { name := "serialVersionUID", type := .long, accessFlags := 26, slot := 0, constantValue := 0 }, { name := "COMPACT_STRINGS", type := .boolean, accessFlags := 24, slot := 1, constantValue := 0 }, { name := "serialPersistentFields", type := (.array (.object "java/io/ObjectStreamField")), accessFlags := 26, slot := 2, constantValue := 0 }, { name := "REPL", type := .char, accessFlags := 26, slot := 3, constantValue := 0 }, { name := "CASE_INSENSITIVE_ORDER", type := (.object "java/util/Comparator"), accessFlags := 25, slot := 4, constantValue := 0 }, { name := "LATIN1", type := .byte, accessFlags := 24, slot := 5, constantValue := 0 }, { name := "UTF16", type := .byte, accessFlags := 24, slot := 6, constantValue := 0 }]
  methods := #[k9m0, k9m1, k9m2, k9m3, k9m4, k9m5, k9m6, k9m7, k9m8, k9m9]
  instanceTypes := #[(.array .byte), .byte, .int, .boolean]
  staticTypes := #[.long, .boolean, (.array (.object "java/io/ObjectStreamField")), .char, (.object "java/util/Comparator"), .byte, .byte]
  resolved := Array.replicate 1451 none
  statics := some 1 }

def pool10 : Array CpInfo := pool [(6, .class_ 8), (1, u "java/lang/Object"), (0, u "<init>"), (0, u "()V"), (1, .class_ 14), (1, u "java/lang/StringUTF16"), (31, u "$assertionsDisabled"), (0, u "Z"), (13, u "HI_BYTE_SHIFT"), (0, u "I"), (2, u "LO_BYTE_SHIFT"), (49, .methodref 12 116), (0, .nameAndType 117 118), (0, u "compress"), (0, u "([CI[BII)I"), (3, u "([CII)[B"), (138, u "coderFromArrayLen"), (0, u "([BI)B"), (106, .class_ 371), (1, u "java/lang/StringUTF16$LinesSpliterator"), (58, u "MAX_LENGTH"), (196, .class_ 628), (0, u "java/lang/StringUTF16$CodePointsSpliterator"), (0, .class_ 630), (0, u "java/lang/StringUTF16$CharsSpliterator")] 4

def k10m0 : Method := { name := "<init>", desc := "()V", sig := { parameters := [], returnType := none }, accessFlags := 0, code := none }
def k10c1 : Code := { maxStack := 2, maxLocals := 2, code := jdk_52_method_15_code, exceptionTable := #[], attributes := #[] }
def k10m1 : Method := { name := "coderFromArrayLen", desc := "([BI)B", sig := { parameters := [(.array .byte), .int], returnType := some .byte }, accessFlags := 8, code := some k10c1 }
def k10c2 : Code := { maxStack := 5, maxLocals := 6, code := jdk_52_method_16_code, exceptionTable := #[], attributes := #[] }
def k10m2 : Method := { name := "compress", desc := "([CII)[B", sig := { parameters := [(.array .char), .int, .int], returnType := some (.array .byte) }, accessFlags := 9, code := some k10c2 }
def k10c3 : Code := { maxStack := 3, maxLocals := 7, code := jdk_52_method_21_code, exceptionTable := #[], attributes := #[] }
def k10m3 : Method := { name := "compress", desc := "([CI[BII)I", sig := { parameters := [(.array .char), .int, (.array .byte), .int, .int], returnType := some .int }, accessFlags := 9, code := some k10c3 }
/-- java/lang/StringUTF16 -/
def k10 : Class := { plain "java/lang/StringUTF16" (some 0) with
  accessFlags := 48
  interfaces := #[]
  cf := some (fileOf pool10 12 #[.nestMembers #[627, 629, 369]] #[{ accessFlags := 0, nameIndex := 9, descriptorIndex := 10, attributes := #[] }, { accessFlags := 8, nameIndex := 261, descriptorIndex := 262, attributes := #[] }, { accessFlags := 9, nameIndex := 117, descriptorIndex := 122, attributes := #[] }, { accessFlags := 9, nameIndex := 117, descriptorIndex := 118, attributes := #[] }] 48 6 #[] #[{ accessFlags := 26, nameIndex := 61, descriptorIndex := 62, attributes := #[] }, { accessFlags := 26, nameIndex := 65, descriptorIndex := 62, attributes := #[] }, { accessFlags := 24, nameIndex := 430, descriptorIndex := 62, attributes := #[] }, { accessFlags := 4120, nameIndex := 46, descriptorIndex := 47, attributes := #[] }])
  fields := #[{ name := "HI_BYTE_SHIFT", type := .int, accessFlags := 26, slot := 0, constantValue := 0 }, { name := "LO_BYTE_SHIFT", type := .int, accessFlags := 26, slot := 1, constantValue := 0 }, { name := "MAX_LENGTH", type := .int, accessFlags := 24, slot := 2, constantValue := 0 }, { name := "$assertionsDisabled", type := .boolean, accessFlags := 4120, slot := 3, constantValue := 0 }]
  methods := #[k10m0, k10m1, k10m2, k10m3]
  instanceTypes := #[]
  staticTypes := #[.int, .int, .int, .boolean]
  resolved := Array.replicate 635 none
  statics := none }

def pool11 : Array CpInfo := pool [(1, .methodref 2 3), (0, .class_ 4), (0, .nameAndType 5 6), (0, u "com/example/thames/thames/engine/NodeTest"), (0, u "<init>"), (0, u "(Lcom/example/thames/thames/model/NodeKind;Ljava/lang/String;Ljava/lang/String;Lcom/example/thames/thames/model/SchemaType;Lcom/example/thames/thames/engine/NodeTest;)V"), (0, .methodref 8 9), (0, .class_ 10), (0, .nameAndType 5 11), (0, u "java/lang/Object"), (0, u "()V"), (0, .fieldref 2 13), (0, .nameAndType 14 15), (0, u "kind"), (0, u "Lcom/example/thames/thames/model/NodeKind;"), (0, .fieldref 2 17), (0, .nameAndType 18 19), (0, u "namespaceUri"), (0, u "Ljava/lang/String;"), (0, .fieldref 2 21), (0, .nameAndType 22 19), (0, u "localName"), (0, .fieldref 2 24), (0, .nameAndType 25 26), (0, u "type"), (0, u "Lcom/example/thames/thames/model/SchemaType;"), (0, .fieldref 2 28), (0, .nameAndType 29 30), (0, u "elementTest"), (0, u "Lcom/example/thames/thames/engine/NodeTest;"), (0, .methodref 2 32), (0, .nameAndType 33 34), (0, u "testsElementNameAlone"), (0, u "()Z"), (0, .methodref 36 37), (0, .class_ 38), (0, .nameAndType 39 40), (0, u "com/example/thames/thames/model/ElementQuery"), (0, u "named"), (0, u "(Ljava/lang/String;Ljava/lang/String;)Lcom/example/thames/thames/model/ElementQuery;"), (0, .fieldref 2 42), (0, .nameAndType 43 44), (0, u "elementQuery"), (0, u "Lcom/example/thames/thames/model/ElementQuery;"), (1, .class_ 48), (1, u "com/example/thames/thames/model/NodeKind"), (1, .fieldref 46 51), (0, .nameAndType 52 15), (0, u "ELEMENT"), (63, u "(Lcom/example/thames/thames/model/NodeKind;Ljava/lang/String;Ljava/lang/String;)V"), (2, u "ANY_NODE"), (11, u "listedByTree")] 9

def k11c0 : Code := { maxStack := 6, maxLocals := 4, code := prog_106_method_1_code, exceptionTable := #[], attributes := #[] }
def k11m0 : Method := { name := "<init>", desc := "(Lcom/example/thames/thames/model/NodeKind;Ljava/lang/String;Ljava/lang/String;)V", sig := { parameters := [(.object "com/example/thames/thames/model/NodeKind"), (.object "java/lang/String"), (.object "java/lang/String")], returnType := none }, accessFlags := 0, code := some k11c0 }
def k11c1 : Code := { maxStack := 2, maxLocals := 7, code := prog_106_method_2_code, exceptionTable := #[], attributes := #[] }
def k11m1 : Method := { name := "<init>", desc := "(Lcom/example/thames/thames/model/NodeKind;Ljava/lang/String;Ljava/lang/String;Lcom/example/thames/thames/model/SchemaType;Lcom/example/thames/thames/engine/NodeTest;)V", sig := { parameters := [(.object "com/example/thames/thames/model/NodeKind"), (.object "java/lang/String"), (.object "java/lang/String"), (.object "com/example/thames/thames/model/SchemaType"), (.object "com/example/thames/thames/engine/NodeTest")], returnType := none }, accessFlags := 2, code := some k11c1 }
def k11c2 : Code := { maxStack := 2, maxLocals := 1, code := prog_106_method_5_code, exceptionTable := #[], attributes := #[] }
def k11m2 : Method := { name := "testsElementNameAlone", desc := "()Z", sig := { parameters := [], returnType := some .boolean }, accessFlags := 2, code := some k11c2 }
def k11c3 : Code := { maxStack := 1, maxLocals := 2, code := prog_106_method_7_code, exceptionTable := #[], attributes := #[] }
def k11m3 : Method := { name := "listedByTree", desc := "()Z", sig := { parameters := [], returnType := some .boolean }, accessFlags := 0, code := some k11c3 }
/-- com/example/thames/thames/engine/NodeTest -/
def k11 : Class := { plain "com/example/thames/thames/engine/NodeTest" (some 0) with
  accessFlags := 48
  interfaces := #[]
  cf := some (fileOf pool11 2 #[] #[{ accessFlags := 0, nameIndex := 5, descriptorIndex := 116, attributes := #[] }, { accessFlags := 2, nameIndex := 5, descriptorIndex := 6, attributes := #[] }, { accessFlags := 2, nameIndex := 33, descriptorIndex := 34, attributes := #[] }, { accessFlags := 0, nameIndex := 131, descriptorIndex := 34, attributes := #[] }] 48 8 #[] #[{ accessFlags := 24, nameIndex := 119, descriptorIndex := 30, attributes := #[] }, { accessFlags := 18, nameIndex := 14, descriptorIndex := 15, attributes := #[] }, { accessFlags := 18, nameIndex := 18, descriptorIndex := 19, attributes := #[] }, { accessFlags := 18, nameIndex := 22, descriptorIndex := 19, attributes := #[] }, { accessFlags := 18, nameIndex := 25, descriptorIndex := 26, attributes := #[] }, { accessFlags := 18, nameIndex := 29, descriptorIndex := 30, attributes := #[] }, { accessFlags := 18, nameIndex := 43, descriptorIndex := 44, attributes := #[] }])
  fields := #[{ name := "ANY_NODE", type := (.object "com/example/thames/thames/engine/NodeTest"), accessFlags := 24, slot := 0, constantValue := 0 }, { name := "kind", type := (.object "com/example/thames/thames/model/NodeKind"), accessFlags := 18, slot := 0, constantValue := 0 }, { name := "namespaceUri", type := (.object "java/lang/String"), accessFlags := 18, slot := 1, constantValue := 0 }, { name := "localName", type := (.object "java/lang/String"), accessFlags := 18, slot := 2, constantValue := 0 }, { name := "type", type := (.object "com/example/thames/thames/model/SchemaType"), accessFlags := 18, slot := 3, constantValue := 0 }, { name := "elementTest", type := (.object "com/example/thames/thames/engine/NodeTest"), accessFlags := 18, slot := 4, constantValue := 0 }, { name := "elementQuery", type := (.object "com/example/thames/thames/model/ElementQuery"), accessFlags := 18, slot := 5, constantValue := 0 }]
  methods := #[k11m0, k11m1, k11m2, k11m3]
  instanceTypes := #[(.object "com/example/thames/thames/model/NodeKind"), (.object "java/lang/String"), (.object "java/lang/String"), (.object "com/example/thames/thames/model/SchemaType"), (.object "com/example/thames/thames/engine/NodeTest"), (.object "com/example/thames/thames/model/ElementQuery")]
  staticTypes := #[(.object "com/example/thames/thames/engine/NodeTest")]
  resolved := Array.replicate 141 none
  statics := none }

def pool12 : Array CpInfo := pool [(1, .methodref 2 3), (0, .class_ 4), (0, .nameAndType 5 6), (0, u "java/lang/Object"), (0, u "<init>"), (0, u "()V"), (0, .fieldref 8 9), (0, .class_ 10), (0, .nameAndType 11 12), (0, u "com/example/thames/thames/model/ElementQuery"), (0, u "namespaceUri"), (0, u "Ljava/lang/String;"), (0, .fieldref 8 14), (0, .nameAndType 15 12), (0, u "localName"), (0, .fieldref 8 17), (0, .nameAndType 18 19), (0, u "name"), (0, u "Lcom/example/thames/thames/model/ExpandedQName;"), (0, .fieldref 8 21), (0, .nameAndType 22 19), (0, u "attributeName"), (0, .fieldref 8 24), (0, .nameAndType 25 26), (0, u "firstOnly"), (0, u "Z"), (0, .methodref 28 29), (0, .class_ 30), (0, .nameAndType 31 32), (0, u "com/example/thames/thames/model/ExpandedQName"), (0, u "requireLocalName"), (0, u "(Ljava/lang/String;)V"), (0, .methodref 28 34), (0, .nameAndType 35 32), (0, u "requireXmlNamespaceUri"), (0, .string 37), (0, u ""), (0, .methodref 28 39), (0, .nameAndType 5 40), (0, u "(Ljava/lang/String;Ljava/lang/String;Ljava/lang/String;)V"), (0, .methodref 8 42), (0, .nameAndType 5 43), (0, u "(Ljava/lang/String;Ljava/lang/String;Lcom/example/thames/thames/model/ExpandedQName;Lcom/example/thames/thames/model/ExpandedQName;Z)V"), (8, u "resolved"), (0, u "Lcom/example/thames/thames/model/Tree$ResolvedQuery;"), (14, u "named"), (0, u "(Ljava/lang/String;Ljava/lang/String;)Lcom/example/thames/thames/model/ElementQuery;")] 17

def k12c0 : Code := { maxStack := 2, maxLocals := 6, code := prog_174_method_1_code, exceptionTable := #[], attributes := #[] }
def k12m0 : Method := { name := "<init>", desc := "(Ljava/lang/String;Ljava/lang/String;Lcom/example/thames/thames/model/ExpandedQName;Lcom/example/thames/thames/model/ExpandedQName;Z)V", sig := { parameters := [(.object "java/lang/String"), (.object "java/lang/String"), (.object "com/example/thames/thames/model/ExpandedQName"), (.object "com/example/thames/thames/model/ExpandedQName"), .boolean], returnType := none }, accessFlags := 2, code := some k12c0 }
def k12c1 : Code := { maxStack := 7, maxLocals := 3, code := prog_174_method_2_code, exceptionTable := #[], attributes := #[] }
def k12m1 : Method := { name := "named", desc := "(Ljava/lang/String;Ljava/lang/String;)Lcom/example/thames/thames/model/ElementQuery;", sig := { parameters := [(.object "java/lang/String"), (.object "java/lang/String")], returnType := some (.object "com/example/thames/thames/model/ElementQuery") }, accessFlags := 9, code := some k12c1 }
/-- com/example/thames/thames/model/ElementQuery -/
def k12 : Class := { plain "com/example/thames/thames/model/ElementQuery" (some 0) with
  accessFlags := 49
  interfaces := #[]
  cf := some (fileOf pool12 8 #[] #[{ accessFlags := 2, nameIndex := 5, descriptorIndex := 43, attributes := #[] }, { accessFlags := 9, nameIndex := 68, descriptorIndex := 69, attributes := #[] }] 49 2 #[] #[{ accessFlags := 18, nameIndex := 11, descriptorIndex := 12, attributes := #[] }, { accessFlags := 18, nameIndex := 15, descriptorIndex := 12, attributes := #[] }, { accessFlags := 18, nameIndex := 18, descriptorIndex := 19, attributes := #[] }, { accessFlags := 18, nameIndex := 22, descriptorIndex := 19, attributes := #[] }, { accessFlags := 18, nameIndex := 25, descriptorIndex := 26, attributes := #[] }, { accessFlags := 66, nameIndex := 52, descriptorIndex := 53, attributes := #[] }])
  fields := #[{ name := "namespaceUri", type := (.object "java/lang/String"), accessFlags := 18, slot := 0, constantValue := 0 }, { name := "localName", type := (.object "java/lang/String"), accessFlags := 18, slot := 1, constantValue := 0 }, { name := "name", type := (.object "com/example/thames/thames/model/ExpandedQName"), accessFlags := 18, slot := 2, constantValue := 0 }, { name := "attributeName", type := (.object "com/example/thames/thames/model/ExpandedQName"), accessFlags := 18, slot := 3, constantValue := 0 }, { name := "firstOnly", type := .boolean, accessFlags := 18, slot := 4, constantValue := 0 }, { name := "resolved", type := (.object "com/example/thames/thames/model/Tree$ResolvedQuery"), accessFlags := 66, slot := 5, constantValue := 0 }]
  methods := #[k12m0, k12m1]
  instanceTypes := #[(.object "java/lang/String"), (.object "java/lang/String"), (.object "com/example/thames/thames/model/ExpandedQName"), (.object "com/example/thames/thames/model/ExpandedQName"), .boolean, (.object "com/example/thames/thames/model/Tree$ResolvedQuery")]
  staticTypes := #[]
  resolved := Array.replicate 87 none
  statics := none }

def pool13 : Array CpInfo := pool [(1, .methodref 2 3), (0, .class_ 4), (0, .nameAndType 5 6), (0, u "java/lang/Object"), (0, u "<init>"), (0, u "()V"), (0, .string 8), (0, u "namespaceUri"), (0, .methodref 10 11), (0, .class_ 12), (0, .nameAndType 13 14), (0, u "java/util/Objects"), (0, u "requireNonNull"), (0, u "(Ljava/lang/Object;Ljava/lang/String;)Ljava/lang/Object;"), (0, .string 16), (0, u "prefix"), (0, .string 18), (0, u "localName"), (0, .methodref 20 21), (0, .class_ 22), (0, .nameAndType 23 24), (0, u "com/example/thames/thames/model/ExpandedQName"), (0, u "requireLocalName"), (0, u "(Ljava/lang/String;)V"), (0, .methodref 26 27), (0, .class_ 28), (0, .nameAndType 29 30), (0, u "java/lang/String"), (0, u "isEmpty"), (0, u "()Z"), (0, .methodref 20 32), (0, .nameAndType 33 34), (0, u "isNCName"), (0, u "(Ljava/lang/CharSequence;)Z"), (9, .methodref 20 45), (0, .nameAndType 46 24), (0, u "requireXmlNamespaceUri"), (0, .fieldref 20 48), (0, .nameAndType 8 49), (0, u "Ljava/lang/String;"), (0, .fieldref 20 51), (0, .nameAndType 16 49), (0, .fieldref 20 53), (0, .nameAndType 18 49), (3, u "(I)I"), (5, u "(Ljava/lang/String;Ljava/lang/String;Ljava/lang/String;)V"), (19, .string 84), (0, u "The namespace URI"), (0, .methodref 86 87), (0, .class_ 88), (0, .nameAndType 89 90), (0, u "com/example/thames/thames/model/XmlCharacters"), (0, u "requireXmlCharacters"), (0, u "(Ljava/lang/String;Ljava/lang/String;)V"), (1, .interfaceMethodref 93 94), (0, .class_ 95), (0, .nameAndType 96 97), (0, u "java/lang/CharSequence"), (0, u "length"), (0, u "()I"), (0, .methodref 99 100), (0, .class_ 101), (0, .nameAndType 102 103), (0, u "java/lang/Character"), (0, u "codePointAt"), (0, u "(Ljava/lang/CharSequence;I)I"), (0, .methodref 86 105), (0, .nameAndType 106 107), (0, u "isNCNameStartChar"), (0, u "(I)Z"), (0, .methodref 99 109), (0, .nameAndType 110 57), (0, u "charCount"), (0, .methodref 86 112), (0, .nameAndType 113 107), (0, u "isNCNameChar")] 54

def k13c0 : Code := { maxStack := 3, maxLocals := 4, code := prog_176_method_1_code, exceptionTable := #[], attributes := #[] }
def k13m0 : Method := { name := "<init>", desc := "(Ljava/lang/String;Ljava/lang/String;Ljava/lang/String;)V", sig := { parameters := [(.object "java/lang/String"), (.object "java/lang/String"), (.object "java/lang/String")], returnType := none }, accessFlags := 1, code := some k13c0 }
def k13c1 : Code := { maxStack := 2, maxLocals := 1, code := prog_176_method_4_code, exceptionTable := #[], attributes := #[] }
def k13m1 : Method := { name := "requireXmlNamespaceUri", desc := "(Ljava/lang/String;)V", sig := { parameters := [(.object "java/lang/String")], returnType := none }, accessFlags := 9, code := some k13c1 }
def k13c2 : Code := { maxStack := 3, maxLocals := 1, code := prog_176_method_5_code, exceptionTable := #[], attributes := #[] }
def k13m2 : Method := { name := "requireLocalName", desc := "(Ljava/lang/String;)V", sig := { parameters := [(.object "java/lang/String")], returnType := none }, accessFlags := 9, code := some k13c2 }
def k13c3 : Code := { maxStack := 2, maxLocals := 4, code := prog_176_method_7_code, exceptionTable := #[], attributes := #[] }
def k13m3 : Method := { name := "isNCName", desc := "(Ljava/lang/CharSequence;)Z", sig := { parameters := [(.object "java/lang/CharSequence")], returnType := some .boolean }, accessFlags := 9, code := some k13c3 }
/-- com/example/thames/thames/model/ExpandedQName -/
def k13 : Class := { plain "com/example/thames/thames/model/ExpandedQName" (some 0) with
  accessFlags := 49
  interfaces := #[]
  cf := some (fileOf pool13 20 #[] #[{ accessFlags := 1, nameIndex := 5, descriptorIndex := 63, attributes := #[] }, { accessFlags := 9, nameIndex := 46, descriptorIndex := 24, attributes := #[] }, { accessFlags := 9, nameIndex := 23, descriptorIndex := 24, attributes := #[] }, { accessFlags := 9, nameIndex := 33, descriptorIndex := 34, attributes := #[] }] 49 2 #[] #[{ accessFlags := 18, nameIndex := 8, descriptorIndex := 49, attributes := #[] }, { accessFlags := 18, nameIndex := 16, descriptorIndex := 49, attributes := #[] }, { accessFlags := 18, nameIndex := 18, descriptorIndex := 49, attributes := #[] }])
  fields := #[{ name := "namespaceUri", type := (.object "java/lang/String"), accessFlags := 18, slot := 0, constantValue := 0 }, { name := "prefix", type := (.object "java/lang/String"), accessFlags := 18, slot := 1, constantValue := 0 }, { name := "localName", type := (.object "java/lang/String"), accessFlags := 18, slot := 2, constantValue := 0 }]
  methods := #[k13m0, k13m1, k13m2, k13m3]
  instanceTypes := #[(.object "java/lang/String"), (.object "java/lang/String"), (.object "java/lang/String")]
  staticTypes := #[]
  resolved := Array.replicate 168 none
  statics := none }

def pool14 : Array CpInfo := pool [(1, .class_ 2), (0, u "java/lang/Character"), (18, u "value"), (0, u "C"), (19, .class_ 44), (1, u "java/lang/Object"), (3, .class_ 50), (1, u "java/lang/Character$CharacterCache"), (22, .integer 65536), (1, .integer 55296), (2, .methodref 1 79), (0, .nameAndType 80 81), (0, u "isHighSurrogate"), (0, u "(C)Z"), (4, .interfaceMethodref 87 88), (0, .class_ 89), (0, .nameAndType 90 91), (0, u "java/lang/CharSequence"), (0, u "charAt"), (0, u "(I)C"), (82, u "(I)I"), (109, u "$assertionsDisabled"), (0, u "Z"), (21, .class_ 309), (1, u "java/lang/Character$UnicodeBlock"), (73, u "TYPE"), (0, u "Ljava/lang/Class;"), (0, .class_ 386), (0, u "java/io/Serializable"), (0, .class_ 388), (0, u "java/lang/Comparable"), (0, .class_ 390), (0, u "java/lang/constant/Constable"), (0, u "MIN_RADIX"), (0, u "I"), (2, u "MAX_RADIX"), (1, u "MIN_VALUE"), (1, u "MAX_VALUE"), (3, u "UNASSIGNED"), (0, u "B"), (0, u "UPPERCASE_LETTER"), (1, u "LOWERCASE_LETTER"), (0, u "TITLECASE_LETTER"), (1, u "MODIFIER_LETTER"), (1, u "OTHER_LETTER"), (1, u "NON_SPACING_MARK"), (1, u "ENCLOSING_MARK"), (1, u "COMBINING_SPACING_MARK"), (1, u "DECIMAL_DIGIT_NUMBER"), (1, u "LETTER_NUMBER"), (1, u "OTHER_NUMBER"), (1, u "SPACE_SEPARATOR"), (1, u "LINE_SEPARATOR"), (1, u "PARAGRAPH_SEPARATOR"), (1, u "CONTROL"), (1, u "FORMAT"), (1, u "PRIVATE_USE"), (1, u "SURROGATE"), (1, u "DASH_PUNCTUATION"), (1, u "START_PUNCTUATION"), (1, u "END_PUNCTUATION"), (1, u "CONNECTOR_PUNCTUATION"), (1, u "OTHER_PUNCTUATION"), (1, u "MATH_SYMBOL"), (1, u "CURRENCY_SYMBOL"), (1, u "MODIFIER_SYMBOL"), (1, u "OTHER_SYMBOL"), (1, u "INITIAL_QUOTE_PUNCTUATION"), (1, u "FINAL_QUOTE_PUNCTUATION"), (1, u "ERROR"), (1, u "DIRECTIONALITY_UNDEFINED"), (0, u "DIRECTIONALITY_LEFT_TO_RIGHT"), (0, u "DIRECTIONALITY_RIGHT_TO_LEFT"), (0, u "DIRECTIONALITY_RIGHT_TO_LEFT_ARABIC"), (0, u "DIRECTIONALITY_EUROPEAN_NUMBER"), (0, u "DIRECTIONALITY_EUROPEAN_NUMBER_SEPARATOR"), (0, u "DIRECTIONALITY_EUROPEAN_NUMBER_TERMINATOR"), (0, u "DIRECTIONALITY_ARABIC_NUMBER"), (0, u "DIRECTIONALITY_COMMON_NUMBER_SEPARATOR"), (0, u "DIRECTIONALITY_NONSPACING_MARK"), (0, u "DIRECTIONALITY_BOUNDARY_NEUTRAL"), (0, u "DIRECTIONALITY_PARAGRAPH_SEPARATOR"), (0, u "DIRECTIONALITY_SEGMENT_SEPARATOR"), (0, u "DIRECTIONALITY_WHITESPACE"), (0, u "DIRECTIONALITY_OTHER_NEUTRALS"), (0, u "DIRECTIONALITY_LEFT_TO_RIGHT_EMBEDDING"), (0, u "DIRECTIONALITY_LEFT_TO_RIGHT_OVERRIDE"), (0, u "DIRECTIONALITY_RIGHT_TO_LEFT_EMBEDDING"), (0, u "DIRECTIONALITY_RIGHT_TO_LEFT_OVERRIDE"), (1, u "DIRECTIONALITY_POP_DIRECTIONAL_FORMAT"), (0, u "DIRECTIONALITY_LEFT_TO_RIGHT_ISOLATE"), (0, u "DIRECTIONALITY_RIGHT_TO_LEFT_ISOLATE"), (0, u "DIRECTIONALITY_FIRST_STRONG_ISOLATE"), (0, u "DIRECTIONALITY_POP_DIRECTIONAL_ISOLATE"), (0, u "MIN_HIGH_SURROGATE"), (0, u "MAX_HIGH_SURROGATE"), (1, u "MIN_LOW_SURROGATE"), (0, u "MAX_LOW_SURROGATE"), (1, u "MIN_SURROGATE"), (0, u "MAX_SURROGATE"), (0, u "MIN_SUPPLEMENTARY_CODE_POINT"), (0, u "MIN_CODE_POINT"), (0, u "MAX_CODE_POINT"), (1, u "serialVersionUID"), (0, u "J"), (2, u "SIZE"), (0, u "BYTES"), (29, u "charCount"), (0, u "codePointAt"), (0, u "(Ljava/lang/CharSequence;I)I"), (56, .class_ 596), (0, u "java/lang/Character$UnicodeScript"), (0, .class_ 598), (0, u "java/lang/Character$Subset")] 5

def k14c0 : Code := { maxStack := 2, maxLocals := 1, code := jdk_89_method_14_code, exceptionTable := #[], attributes := #[] }
def k14m0 : Method := { name := "isHighSurrogate", desc := "(C)Z", sig := { parameters := [.char], returnType := some .boolean }, accessFlags := 9, code := some k14c0 }
def k14c1 : Code := { maxStack := 2, maxLocals := 1, code := jdk_89_method_18_code, exceptionTable := #[], attributes := #[] }
def k14m1 : Method := { name := "charCount", desc := "(I)I", sig := { parameters := [.int], returnType := some .int }, accessFlags := 9, code := some k14c1 }
def k14c2 : Code := { maxStack := 2, maxLocals := 4, code := jdk_89_method_20_code, exceptionTable := #[], attributes := #[] }
def k14m2 : Method := { name := "codePointAt", desc := "(Ljava/lang/CharSequence;I)I", sig := { parameters := [(.object "java/lang/CharSequence"), .int], returnType := some .int }, accessFlags := 9, code := some k14c2 }
/-- java/lang/Character -/
def k14 : Class := { plain "java/lang/Character" (some 0) with
  accessFlags := 49
  interfaces := #[4, 3, 2]
  cf := some (fileOf pool14 1 #[.nestMembers #[48, 595, 307, 597]] #[{ accessFlags := 9, nameIndex := 80, descriptorIndex := 81, attributes := #[] }, { accessFlags := 9, nameIndex := 536, descriptorIndex := 174, attributes := #[] }, { accessFlags := 9, nameIndex := 537, descriptorIndex := 538, attributes := #[] }] 49 42 #[385, 387, 389] #[{ accessFlags := 25, nameIndex := 391, descriptorIndex := 392, attributes := #[] }, { accessFlags := 25, nameIndex := 395, descriptorIndex := 392, attributes := #[] }, { accessFlags := 25, nameIndex := 397, descriptorIndex := 22, attributes := #[] }, { accessFlags := 25, nameIndex := 399, descriptorIndex := 22, attributes := #[] }, { accessFlags := 25, nameIndex := 383, descriptorIndex := 384, attributes := #[] }, { accessFlags := 25, nameIndex := 403, descriptorIndex := 404, attributes := #[] }, { accessFlags := 25, nameIndex := 405, descriptorIndex := 404, attributes := #[] }, { accessFlags := 25, nameIndex := 407, descriptorIndex := 404, attributes := #[] }, { accessFlags := 25, nameIndex := 408, descriptorIndex := 404, attributes := #[] }, { accessFlags := 25, nameIndex := 410, descriptorIndex := 404, attributes := #[] }, { accessFlags := 25, nameIndex := 412, descriptorIndex := 404, attributes := #[] }, { accessFlags := 25, nameIndex := 414, descriptorIndex := 404, attributes := #[] }, { accessFlags := 25, nameIndex := 416, descriptorIndex := 404, attributes := #[] }, { accessFlags := 25, nameIndex := 418, descriptorIndex := 404, attributes := #[] }, { accessFlags := 25, nameIndex := 420, descriptorIndex := 404, attributes := #[] }, { accessFlags := 25, nameIndex := 422, descriptorIndex := 404, attributes := #[] }, { accessFlags := 25, nameIndex := 424, descriptorIndex := 404, attributes := #[] }, { accessFlags := 25, nameIndex := 426, descriptorIndex := 404, attributes := #[] }, { accessFlags := 25, nameIndex := 428, descriptorIndex := 404, attributes := #[] }, { accessFlags := 25, nameIndex := 430, descriptorIndex := 404, attributes := #[] }, { accessFlags := 25, nameIndex := 432, descriptorIndex := 404, attributes := #[] }, { accessFlags := 25, nameIndex := 434, descriptorIndex := 404, attributes := #[] }, { accessFlags := 25, nameIndex := 436, descriptorIndex := 404, attributes := #[] }, { accessFlags := 25, nameIndex := 438, descriptorIndex := 404, attributes := #[] }, { accessFlags := 25, nameIndex := 440, descriptorIndex := 404, attributes := #[] }, { accessFlags := 25, nameIndex := 442, descriptorIndex := 404, attributes := #[] }, { accessFlags := 25, nameIndex := 444, descriptorIndex := 404, attributes := #[] }, { accessFlags := 25, nameIndex := 446, descriptorIndex := 404, attributes := #[] }, { accessFlags := 25, nameIndex := 448, descriptorIndex := 404, attributes := #[] }, { accessFlags := 25, nameIndex := 450, descriptorIndex := 404, attributes := #[] }, { accessFlags := 25, nameIndex := 452, descriptorIndex := 404, attributes := #[] }, { accessFlags := 25, nameIndex := 454, descriptorIndex := 404, attributes := #[] }, { accessFlags := 25, nameIndex := 456, descriptorIndex := 404, attributes := #[] }, { accessFlags := 25, nameIndex := 458, descriptorIndex := 404, attributes := #[] }, { accessFlags := 25, nameIndex := 460, descriptorIndex := 404, attributes := #[] }, { accessFlags := 24, nameIndex := 462, descriptorIndex := 392, attributes := #[] }, { accessFlags := 25, nameIndex := 464, descriptorIndex := 404, attributes := #[] }, { accessFlags := 25, nameIndex := 465, descriptorIndex := 404, attributes := #[] }, { accessFlags := 25, nameIndex := 466, descriptorIndex := 404, attributes := #[] }, { accessFlags := 25, nameIndex := 467, descriptorIndex := 404, attributes := #[] }, { accessFlags := 25, nameIndex := 468, descriptorIndex := 404, attributes := #[] }, { accessFlags := 25, nameIndex := 469, descriptorIndex := 404, attributes := #[] }, { accessFlags := 25, nameIndex := 470, descriptorIndex := 404, attributes := #[] }, { accessFlags := 25, nameIndex := 471, descriptorIndex := 404, attributes := #[] }, { accessFlags := 25, nameIndex := 472, descriptorIndex := 404, attributes := #[] }, { accessFlags := 25, nameIndex := 473, descriptorIndex := 404, attributes := #[] }, { accessFlags := 25, nameIndex := 474, descriptorIndex := 404, attributes := #[] }, { accessFlags := 25, nameIndex := 475, descriptorIndex := 404, attributes := #[] }, { accessFlags := 25, nameIndex := 476, descriptorIndex := 404, attributes := #[] }, { accessFlags := 25, nameIndex := 477, descriptorIndex := 404, attributes := #[] }, { accessFlags := 25, nameIndex := 478, descriptorIndex := 404, attributes := #[] }, { accessFlags := 25, nameIndex := 479, descriptorIndex := 404, attributes := #[] }, { accessFlags := 25, nameIndex := 480, descriptorIndex := 404, attributes := #[] }, { accessFlags := 25, nameIndex := 481, descriptorIndex := 404, attributes := #[] }, { accessFlags := 25, nameIndex := 482, descriptorIndex := 404, attributes := #[] }, { accessFlags := 25, nameIndex := 484, descriptorIndex := 404, attributes := #[] }, { accessFlags := 25, nameIndex := 485, descriptorIndex := 404, attributes := #[] }, { accessFlags := 25, nameIndex := 486, descriptorIndex := 404, attributes := #[] }, { accessFlags := 25, nameIndex := 487, descriptorIndex := 404, attributes := #[] }, { accessFlags := 25, nameIndex := 488, descriptorIndex := 404, attributes := #[] }, { accessFlags := 25, nameIndex := 489, descriptorIndex := 22, attributes := #[] }, { accessFlags := 25, nameIndex := 490, descriptorIndex := 22, attributes := #[] }, { accessFlags := 25, nameIndex := 492, descriptorIndex := 22, attributes := #[] }, { accessFlags := 25, nameIndex := 493, descriptorIndex := 22, attributes := #[] }, { accessFlags := 25, nameIndex := 495, descriptorIndex := 22, attributes := #[] }, { accessFlags := 25, nameIndex := 496, descriptorIndex := 22, attributes := #[] }, { accessFlags := 25, nameIndex := 497, descriptorIndex := 392, attributes := #[] }, { accessFlags := 25, nameIndex := 498, descriptorIndex := 392, attributes := #[] }, { accessFlags := 25, nameIndex := 499, descriptorIndex := 392, attributes := #[] }, { accessFlags := 18, nameIndex := 21, descriptorIndex := 22, attributes := #[] }, { accessFlags := 26, nameIndex := 501, descriptorIndex := 502, attributes := #[] }, { accessFlags := 25, nameIndex := 505, descriptorIndex := 392, attributes := #[] }, { accessFlags := 25, nameIndex := 506, descriptorIndex := 392, attributes := #[] }, { accessFlags := 4120, nameIndex := 284, descriptorIndex := 285, attributes := #[] }])
  fields := #[{ name := "MIN_RADIX", type := .int, accessFlags := 25, slot := 0, constantValue := 0 }, { name := "MAX_RADIX", type := .int, accessFlags := 25, slot := 1, constantValue := 0 }, { name := "MIN_VALUE", type := .char, accessFlags := 25, slot := 2, constantValue := 0 }, { name := "MAX_VALUE", type := .char, accessFlags := 25, slot := 3, constantValue := 0 }, { name := "TYPE", type := (.object "java/lang/Class"), accessFlags := 25, slot := 4, constantValue := 0 }, { name := "UNASSIGNED", type := .byte, accessFlags := 25, slot := 5, constantValue := 0 }, { name := "UPPERCASE_LETTER", type := .byte, accessFlags := 25, slot := 6, constantValue := 0 }, { name := "LOWERCASE_LETTER", type := .byte, accessFlags := 25, slot := 7, constantValue := 0 }, { name := "TITLECASE_LETTER", type := .byte, accessFlags := 25, slot := 8, constantValue := 0 }, { name := "MODIFIER_LETTER", type := .byte, accessFlags := 25, slot := 9, constantValue := 0 }, { name := "OTHER_LETTER", type := .byte, accessFlags := 25, slot := 10, constantValue := 0 }, { name := "NON_SPACING_MARK", type := .byte, accessFlags := 25, slot := 11, constantValue := 0 }, { name := "ENCLOSING_MARK", type := .byte, accessFlags := 25, slot := 12, constantValue := 0 }, { name := "COMBINING_SPACING_MARK", type := .byte, accessFlags := 25, slot := 13, constantValue := 0 }, { name := "DECIMAL_DIGIT_NUMBER", type := .byte, accessFlags := 25, slot := 14, constantValue := 0 }, { name := "LETTER_NUMBER", type := .byte, accessFlags := 25, slot := 15, constantValue := 0 }, { name := "OTHER_NUMBER", type := .byte, accessFlags := 25, slot := 16, constantValue := 0 }, { name := "SPACE_SEPARATOR", type := .byte, accessFlags := 25, slot := 17, constantValue := 0 }, { name := "LINE_SEPARATOR", type := .byte, accessFlags := 25, slot := 18, constantValue := 0 }, { name := "PARAGRAPH_SEPARATOR", type := .byte, accessFlags := 25, slot := 19, constantValue := 0 }, { name := "CONTROL", type := .byte, accessFlags := 25, slot := 20, constantValue := 0 }, { name := "FORMAT", type := .byte, accessFlags := 25, slot := 21, constantValue := 0 }, { name := "PRIVATE_USE", type := .byte, accessFlags := 25, slot := 22, constantValue := 0 }, { name := "SURROGATE", type := .byte, accessFlags := 25, slot := 23, constantValue := 0 }, { name := "DASH_PUNCTUATION", type := .byte, accessFlags := 25, slot := 24, constantValue := 0 }, { name := "START_PUNCTUATION", type := .byte, accessFlags := 25, slot := 25, constantValue := 0 }, { name := "END_PUNCTUATION", type := .byte, accessFlags := 25, slot := 26, constantValue := 0 }, { name := "CONNECTOR_PUNCTUATION", type := .byte, accessFlags := 25, slot := 27, constantValue := 0 }, { name := "OTHER_PUNCTUATION", type := .byte, accessFlags := 25, slot := 28, constantValue := 0 }, { name := "MATH_SYMBOL", type := .byte, accessFlags := 25, slot := 29, constantValue := 0 }, { name := "CURRENCY_SYMBOL", type := .byte, accessFlags := 25, slot := 30, constantValue := 0 }, { name := "MODIFIER_SYMBOL", type := .byte, accessFlags := 25, slot := 31, constantValue := 0 }, { name := "OTHER_SYMBOL", type := .byte, accessFlags := 25, slot := 32, constantValue := 0 }, { name := "INITIAL_QUOTE_PUNCTUATION", type := .byte, accessFlags := 25, slot := 33, constantValue := 0 }, { name := "FINAL_QUOTE_PUNCTUATION", type := .byte, accessFlags := 25, slot := 34, constantValue := 0 }, { name := "ERROR", type := .int, accessFlags := 24, slot := 35, constantValue := 0 }, { name := "DIRECTIONALITY_UNDEFINED", type := .byte, accessFlags := 25, slot := 36, constantValue := 0 }, { name := "DIRECTIONALITY_LEFT_TO_RIGHT", type := .byte, accessFlags := 25, slot := 37, constantValue := 0 }, { name := "DIRECTIONALITY_RIGHT_TO_LEFT", type := .byte, accessFlags := 25, slot := 38, constantValue := 0 }, { name := "DIRECTIONALITY_RIGHT_TO_LEFT_ARABIC", type := .byte, accessFlags := 25, slot := 39, constantValue := 0 }, { name := "DIRECTIONALITY_EUROPEAN_NUMBER", type := .byte, accessFlags := 25, slot := 40, constantValue := 0 }, { name := "DIRECTIONALITY_EUROPEAN_NUMBER_SEPARATOR", type := .byte, accessFlags := 25, slot := 41, constantValue := 0 }, { name := "DIRECTIONALITY_EUROPEAN_NUMBER_TERMINATOR", type := .byte, accessFlags := 25, slot := 42, constantValue := 0 }, { name := "DIRECTIONALITY_ARABIC_NUMBER", type := .byte, accessFlags := 25, slot := 43, constantValue := 0 }, { name := "DIRECTIONALITY_COMMON_NUMBER_SEPARATOR", type := .byte, accessFlags := 25, slot := 44, constantValue := 0 }, { name := "DIRECTIONALITY_NONSPACING_MARK", type := .byte, accessFlags := 25, slot := 45, constantValue := 0 }, { name := "DIRECTIONALITY_BOUNDARY_NEUTRAL", type := .byte, accessFlags := 25, slot := 46, constantValue := 0 }, { name := "DIRECTIONALITY_PARAGRAPH_SEPARATOR", type := .byte, accessFlags := 25, slot := 47, constantValue := 0 }, { name := "DIRECTIONALITY_SEGMENT_SEPARATOR", type := .byte, accessFlags := 25, slot := 48, constantValue := 0 }, { name := "DIRECTIONALITY_WHITESPACE", type := .byte, accessFlags := 25, slot := 49, constantValue := 0 }, { name := "DIRECTIONALITY_OTHER_NEUTRALS", type := .byte, accessFlags := 25, slot := 50, constantValue := 0 }, { name := "DIRECTIONALITY_LEFT_TO_RIGHT_EMBEDDING", type := .byte, accessFlags := 25, slot := 51, constantValue := 0 }, { name := "DIRECTIONALITY_LEFT_TO_RIGHT_OVERRIDE", type := .byte, accessFlags := 25, slot := 52, constantValue := 0 }, { name := "DIRECTIONALITY_RIGHT_TO_LEFT_EMBEDDING", type := .byte, accessFlags := 25, slot := 53, constantValue := 0 }, { name := "DIRECTIONALITY_RIGHT_TO_LEFT_OVERRIDE", type := .byte, accessFlags := 25, slot := 54, constantValue := 0 }, { name := "DIRECTIONALITY_POP_DIRECTIONAL_FORMAT", type := .byte, accessFlags := 25, slot := 55, constantValue := 0 }, { name := "DIRECTIONALITY_LEFT_TO_RIGHT_ISOLATE", type := .byte, accessFlags := 25, slot := 56, constantValue := 0 }, { name := "DIRECTIONALITY_RIGHT_TO_LEFT_ISOLATE", type := .byte, accessFlags := 25, slot := 57, constantValue := 0 }, { name := "DIRECTIONALITY_FIRST_STRONG_ISOLATE", type := .byte, accessFlags := 25, slot := 58, constantValue := 0 }, { name := "DIRECTIONALITY_POP_DIRECTIONAL_ISOLATE", type := .byte, accessFlags := 25, slot := 59, constantValue := 0 }, { name := "MIN_HIGH_SURROGATE", type := .char, accessFlags := 25, slot := 60, constantValue := 0 }, { name := "MAX_HIGH_SURROGATE", type := .char, accessFlags := 25, slot := 61, constantValue := 0 }, { name := "MIN_LOW_SURROGATE", type := .char, accessFlags := 25, slot := 62, constantValue := 0 }, { name := "MAX_LOW_SURROGATE", type := .char, accessFlags := 25, slot := 63, constantValue := 0 }, { name := "MIN_SURROGATE", type := .char, accessFlags := 25, slot := 64, constantValue := 0 }, { name := "MAX_SURROGATE", type := .char, accessFlags := 25, slot := 65, constantValue := 0 }, { name := "MIN_SUPPLEMENTARY_CODE_POINT", type := .int, accessFlags := 25, slot := 66, constantValue := 0 }, { name := "MIN_CODE_POINT", type := .int, accessFlags := 25, slot := 67, constantValue := 0 }, { name := "MAX_CODE_POINT", type := .int, accessFlags := 25, slot := 68, constantValue := 0 }, { name := "value", type := .char, accessFlags := 18, slot := 0, constantValue := 0 }, { name := "serialVersionUID", type := .long, accessFlags := 26, slot := 69, constantValue := 0 }, { name := "SIZE", type := .int, accessFlags := 25, slot := 70, constantValue := 0 }, { name := "BYTES", type := .int, accessFlags := 25, slot := 71, constantValue := 0 }, { name := "$assertionsDisabled", type := .boolean, accessFlags := 4120, slot := 72, constantValue := 0 }]
  methods := #[k14m0, k14m1, k14m2]
  instanceTypes := #[.char]
  staticTypes := #[.int, .int, .char, .char, (.object "java/lang/Class"), .byte, .byte, .byte, .byte, .byte, .byte, .byte, .byte, .byte, .byte, .byte, .byte, .byte, .byte, .byte, .byte, .byte, .byte, .byte, .byte, .byte, .byte, .byte, .byte, .byte, .byte, .byte, .byte, .byte, .byte, .int, .byte, .byte, .byte, .byte, .byte, .byte, .byte, .byte, .byte, .byte, .byte, .byte, .byte, .byte, .byte, .byte, .byte, .byte, .byte, .byte, .byte, .byte, .byte, .byte, .char, .char, .char, .char, .char, .char, .int, .int, .int, .long, .int, .int, .boolean]
  resolved := Array.replicate 604 none
  statics := none }

def pool15 : Array CpInfo := pool [(1, .class_ 2), (0, u "java/lang/String"), (1, .class_ 6), (1, u "java/lang/Object"), (0, u "<init>"), (0, u "()V"), (0, .methodref 1 10), (0, .nameAndType 11 12), (0, u "checkIndex"), (0, u "(II)V"), (1, .class_ 16), (1, u "java/lang/StringLatin1"), (36, u "([BI)C"), (67, u "$assertionsDisabled"), (0, u "Z"), (98, .class_ 223), (1, u "java/lang/StringLatin1$LinesSpliterator"), (28, u "charAt"), (137, .class_ 391), (0, u "java/lang/StringLatin1$CharsSpliterator")] 3

def k15m0 : Method := { name := "<init>", desc := "()V", sig := { parameters := [], returnType := none }, accessFlags := 0, code := none }
def k15c1 : Code := { maxStack := 2, maxLocals := 2, code := jdk_43_method_2_code, exceptionTable := #[], attributes := #[] }
def k15m1 : Method := { name := "charAt", desc := "([BI)C", sig := { parameters := [(.array .byte), .int], returnType := some .char }, accessFlags := 9, code := some k15c1 }
/-- java/lang/StringLatin1 -/
def k15 : Class := { plain "java/lang/StringLatin1" (some 0) with
  accessFlags := 48
  interfaces := #[]
  cf := some (fileOf pool15 14 #[.nestMembers #[390, 221]] #[{ accessFlags := 0, nameIndex := 7, descriptorIndex := 8, attributes := #[] }, { accessFlags := 9, nameIndex := 252, descriptorIndex := 53, attributes := #[] }] 48 4 #[] #[{ accessFlags := 4120, nameIndex := 121, descriptorIndex := 122, attributes := #[] }])
  fields := #[{ name := "$assertionsDisabled", type := .boolean, accessFlags := 4120, slot := 0, constantValue := 0 }]
  methods := #[k15m0, k15m1]
  instanceTypes := #[]
  staticTypes := #[.boolean]
  resolved := Array.replicate 395 none
  statics := none }

def pool16 : Array CpInfo := pool [(2, .class_ 4), (1, u "java/lang/Object"), (0, u "<init>"), (0, u "()V"), (17, .class_ 26), (1, u "jdk/internal/util/Preconditions"), (6, u "checkIndex"), (21, .class_ 56), (0, u "jdk/internal/util/Preconditions$4"), (57, .class_ 115), (0, u "jdk/internal/util/Preconditions$1"), (7, u "SIOOBE_FORMATTER"), (0, u "Ljava/util/function/BiFunction;"), (0, .class_ 126), (0, u "jdk/internal/util/Preconditions$2"), (3, u "AIOOBE_FORMATTER"), (0, .class_ 132), (0, u "jdk/internal/util/Preconditions$3"), (3, u "IOOBE_FORMATTER"), (41, u "(IILjava/util/function/BiFunction;)I")] 15

def k16m0 : Method := { name := "<init>", desc := "()V", sig := { parameters := [], returnType := none }, accessFlags := 1, code := none }
def k16c1 : Code := { maxStack := 3, maxLocals := 3, code := jdk_41_method_11_code, exceptionTable := #[], attributes := #[] }
def k16m1 : Method := { name := "checkIndex", desc := "(IILjava/util/function/BiFunction;)I", sig := { parameters := [.int, .int, (.object "java/util/function/BiFunction")], returnType := some .int }, accessFlags := 9, code := some k16c1 }
/-- jdk/internal/util/Preconditions -/
def k16 : Class := { plain "jdk/internal/util/Preconditions" (some 0) with
  accessFlags := 33
  interfaces := #[]
  cf := some (fileOf pool16 24 #[.nestMembers #[55, 131, 125, 114]] #[{ accessFlags := 1, nameIndex := 5, descriptorIndex := 6, attributes := #[] }, { accessFlags := 9, nameIndex := 33, descriptorIndex := 178, attributes := #[] }] 33 2 #[] #[{ accessFlags := 25, nameIndex := 123, descriptorIndex := 124, attributes := #[] }, { accessFlags := 25, nameIndex := 130, descriptorIndex := 124, attributes := #[] }, { accessFlags := 25, nameIndex := 136, descriptorIndex := 124, attributes := #[] }])
  fields := #[{ name := "SIOOBE_FORMATTER", type := (.object "java/util/function/BiFunction"), accessFlags := 25, slot := 0, constantValue := 0 }, { name := "AIOOBE_FORMATTER", type := (.object "java/util/function/BiFunction"), accessFlags := 25, slot := 1, constantValue := 0 }, { name := "IOOBE_FORMATTER", type := (.object "java/util/function/BiFunction"), accessFlags := 25, slot := 2, constantValue := 0 }]
  methods := #[k16m0, k16m1]
  instanceTypes := #[]
  staticTypes := #[(.object "java/util/function/BiFunction"), (.object "java/util/function/BiFunction"), (.object "java/util/function/BiFunction")]
  resolved := Array.replicate 194 none
  statics := some 2 }

def pool17 : Array CpInfo := pool [(2, .class_ 4), (1, u "java/lang/Object"), (0, u "<init>"), (0, u "()V"), (0, .methodref 8 9), (0, .class_ 10), (0, .nameAndType 11 12), (0, u "java/lang/String"), (0, u "length"), (0, u "()I"), (5, .class_ 20), (1, u "com/example/thames/thames/model/XmlCharacters"), (1, u "(I)Z"), (18, .integer 55295), (0, .integer 57344), (0, .integer 65533), (0, .integer 65536), (0, .integer 1114111), (0, .methodref 8 47), (0, .nameAndType 48 49), (0, u "codePointAt"), (0, u "(I)I"), (0, .methodref 18 51), (0, .nameAndType 52 22), (0, u "isXmlCharacter"), (0, .methodref 54 55), (0, .class_ 56), (0, .nameAndType 57 49), (0, u "java/lang/Character"), (0, u "charCount"), (0, .methodref 18 59), (0, .nameAndType 60 61), (0, u "indexOfNonXmlCharacter"), (0, u "(Ljava/lang/String;)I"), (23, u "isNCNameStartChar"), (2, u "isNCNameChar"), (12, .fieldref 18 102), (0, .nameAndType 103 104), (0, u "ASCII_NAME_START_CHARS"), (0, u "[Z"), (2, u "NAME_START_CHARS"), (0, u "[[I"), (4, .fieldref 18 114), (0, .nameAndType 115 104), (0, u "ASCII_NAME_CHARS"), (2, u "NAME_CHARS_AFTER_START"), (16, u "requireXmlCharacters"), (0, u "(Ljava/lang/String;Ljava/lang/String;)V")] 7

def k17m0 : Method := { name := "<init>", desc := "()V", sig := { parameters := [], returnType := none }, accessFlags := 2, code := none }
def k17c1 : Code := { maxStack := 2, maxLocals := 1, code := prog_228_method_5_code, exceptionTable := #[], attributes := #[] }
def k17m1 : Method := { name := "isXmlCharacter", desc := "(I)Z", sig := { parameters := [.int], returnType := some .boolean }, accessFlags := 9, code := some k17c1 }
def k17c2 : Code := { maxStack := 2, maxLocals := 3, code := prog_228_method_6_code, exceptionTable := #[], attributes := #[] }
def k17m2 : Method := { name := "indexOfNonXmlCharacter", desc := "(Ljava/lang/String;)I", sig := { parameters := [(.object "java/lang/String")], returnType := some .int }, accessFlags := 9, code := some k17c2 }
def k17c3 : Code := { maxStack := 9, maxLocals := 3, code := prog_228_method_7_code, exceptionTable := #[], attributes := #[] }
def k17m3 : Method := { name := "requireXmlCharacters", desc := "(Ljava/lang/String;Ljava/lang/String;)V", sig := { parameters := [(.object "java/lang/String"), (.object "java/lang/String")], returnType := none }, accessFlags := 8, code := some k17c3 }
def k17c4 : Code := { maxStack := 2, maxLocals := 2, code := prog_228_method_11_code, exceptionTable := #[], attributes := #[] }
def k17m4 : Method := { name := "isNCNameStartChar", desc := "(I)Z", sig := { parameters := [.int], returnType := some .boolean }, accessFlags := 9, code := some k17c4 }
def k17c5 : Code := { maxStack := 2, maxLocals := 2, code := prog_228_method_12_code, exceptionTable := #[], attributes := #[] }
def k17m5 : Method := { name := "isNCNameChar", desc := "(I)Z", sig := { parameters := [.int], returnType := some .boolean }, accessFlags := 9, code := some k17c5 }
/-- com/example/thames/thames/model/XmlCharacters -/
def k17 : Class := { plain "com/example/thames/thames/model/XmlCharacters" (some 0) with
  accessFlags := 49
  interfaces := #[]
  cf := some (fileOf pool17 18 #[] #[{ accessFlags := 2, nameIndex := 5, descriptorIndex := 6, attributes := #[] }, { accessFlags := 9, nameIndex := 52, descriptorIndex := 22, attributes := #[] }, { accessFlags := 9, nameIndex := 60, descriptorIndex := 61, attributes := #[] }, { accessFlags := 8, nameIndex := 135, descriptorIndex := 136, attributes := #[] }, { accessFlags := 9, nameIndex := 85, descriptorIndex := 22, attributes := #[] }, { accessFlags := 9, nameIndex := 88, descriptorIndex := 22, attributes := #[] }] 49 2 #[] #[{ accessFlags := 26, nameIndex := 107, descriptorIndex := 108, attributes := #[] }, { accessFlags := 26, nameIndex := 118, descriptorIndex := 108, attributes := #[] }, { accessFlags := 26, nameIndex := 103, descriptorIndex := 104, attributes := #[] }, { accessFlags := 26, nameIndex := 115, descriptorIndex := 104, attributes := #[] }])
  fields := #[{ name := "NAME_START_CHARS", type := (.array (.array .int)), accessFlags := 26, slot := 0, constantValue := 0 }, { name := "NAME_CHARS_AFTER_START", type := (.array (.array .int)), accessFlags := 26, slot := 1, constantValue := 0 }, { name := "ASCII_NAME_START_CHARS", type := (.array .boolean), accessFlags := 26, slot := 2, constantValue := 0 }, { name := "ASCII_NAME_CHARS", type := (.array .boolean), accessFlags := 26, slot := 3, constantValue := 0 }]
  methods := #[k17m0, k17m1, k17m2, k17m3, k17m4, k17m5]
  instanceTypes := #[]
  staticTypes := #[(.array (.array .int)), (.array (.array .int)), (.array .boolean), (.array .boolean)]
  resolved := Array.replicate 144 none
  statics := some 3 }

def pool18 : Array CpInfo := pool [(2, .class_ 4), (1, u "java/lang/Object"), (0, u "<init>"), (0, u "()V"), (35, .class_ 44), (1, u "java/util/Objects"), (0, u "requireNonNull"), (48, u "(Ljava/lang/Object;Ljava/lang/String;)Ljava/lang/Object;")] 89

def k18m0 : Method := { name := "<init>", desc := "()V", sig := { parameters := [], returnType := none }, accessFlags := 2, code := none }
def k18c1 : Code := { maxStack := 3, maxLocals := 2, code := jdk_31_method_11_code, exceptionTable := #[], attributes := #[] }
def k18m1 : Method := { name := "requireNonNull", desc := "(Ljava/lang/Object;Ljava/lang/String;)Ljava/lang/Object;", sig := { parameters := [(.object "java/lang/Object"), (.object "java/lang/String")], returnType := some (.object "java/lang/Object") }, accessFlags := 9, code := some k18c1 }
/-- java/util/Objects -/
def k18 : Class := { plain "java/util/Objects" (some 0) with
  accessFlags := 49
  interfaces := #[]
  cf := some (fileOf pool18 42 #[] #[{ accessFlags := 2, nameIndex := 5, descriptorIndex := 6, attributes := #[] }, { accessFlags := 9, nameIndex := 45, descriptorIndex := 94, attributes := #[] }] 49 2 #[] #[])
  fields := #[]
  methods := #[k18m0, k18m1]
  instanceTypes := #[]
  staticTypes := #[]
  resolved := Array.replicate 184 none
  statics := none }

def pool19 : Array CpInfo := pool [(9, u "<init>"), (6, .class_ 18), (1, u "java/lang/Object"), (0, u "()V"), (1, .class_ 23), (1, u "jdk/internal/util/ArraysSupport"), (0, u "LOG2_ARRAY_LONG_INDEX_SCALE"), (0, u "I"), (2, u "U"), (0, u "Ljdk/internal/misc/Unsafe;"), (8, u "BIG_ENDIAN"), (0, u "Z"), (8, u "LOG2_BYTE_BIT_SIZE"), (4, u "LOG2_ARRAY_INT_INDEX_SCALE"), (54, u "JLA"), (0, u "Ljdk/internal/access/JavaLangAccess;"), (11, u "LOG2_ARRAY_BOOLEAN_INDEX_SCALE"), (9, u "LOG2_ARRAY_BYTE_INDEX_SCALE"), (5, u "LOG2_ARRAY_CHAR_INDEX_SCALE"), (5, u "LOG2_ARRAY_SHORT_INDEX_SCALE"), (18, u "LOG2_ARRAY_FLOAT_INDEX_SCALE"), (24, u "LOG2_ARRAY_DOUBLE_INDEX_SCALE"), (89, u "T_BOOLEAN"), (2, u "T_CHAR"), (1, u "T_FLOAT"), (1, u "T_DOUBLE"), (1, u "T_BYTE"), (1, u "T_SHORT"), (1, u "T_INT"), (1, u "T_LONG"), (1, u "SOFT_MAX_ARRAY_LENGTH")] 83

def k19m0 : Method := { name := "<init>", desc := "()V", sig := { parameters := [], returnType := none }, accessFlags := 2, code := none }
/-- jdk/internal/util/ArraysSupport -/
def k19 : Class := { plain "jdk/internal/util/ArraysSupport" (some 0) with
  accessFlags := 33
  interfaces := #[]
  cf := some (fileOf pool19 21 #[] #[{ accessFlags := 2, nameIndex := 9, descriptorIndex := 19, attributes := #[] }] 33 16 #[] #[{ accessFlags := 24, nameIndex := 28, descriptorIndex := 29, attributes := #[] }, { accessFlags := 26, nameIndex := 38, descriptorIndex := 39, attributes := #[] }, { accessFlags := 25, nameIndex := 121, descriptorIndex := 25, attributes := #[] }, { accessFlags := 25, nameIndex := 131, descriptorIndex := 25, attributes := #[] }, { accessFlags := 25, nameIndex := 137, descriptorIndex := 25, attributes := #[] }, { accessFlags := 25, nameIndex := 143, descriptorIndex := 25, attributes := #[] }, { accessFlags := 25, nameIndex := 53, descriptorIndex := 25, attributes := #[] }, { accessFlags := 25, nameIndex := 24, descriptorIndex := 25, attributes := #[] }, { accessFlags := 25, nameIndex := 162, descriptorIndex := 25, attributes := #[] }, { accessFlags := 25, nameIndex := 187, descriptorIndex := 25, attributes := #[] }, { accessFlags := 26, nameIndex := 48, descriptorIndex := 25, attributes := #[] }, { accessFlags := 25, nameIndex := 277, descriptorIndex := 25, attributes := #[] }, { accessFlags := 25, nameIndex := 280, descriptorIndex := 25, attributes := #[] }, { accessFlags := 25, nameIndex := 282, descriptorIndex := 25, attributes := #[] }, { accessFlags := 25, nameIndex := 284, descriptorIndex := 25, attributes := #[] }, { accessFlags := 25, nameIndex := 286, descriptorIndex := 25, attributes := #[] }, { accessFlags := 25, nameIndex := 288, descriptorIndex := 25, attributes := #[] }, { accessFlags := 25, nameIndex := 290, descriptorIndex := 25, attributes := #[] }, { accessFlags := 25, nameIndex := 292, descriptorIndex := 25, attributes := #[] }, { accessFlags := 26, nameIndex := 108, descriptorIndex := 109, attributes := #[] }, { accessFlags := 25, nameIndex := 294, descriptorIndex := 25, attributes := #[] }])
  fields := #[{ name := "U", type := (.object "jdk/internal/misc/Unsafe"), accessFlags := 24, slot := 0, constantValue := 0 }, { name := "BIG_ENDIAN", type := .boolean, accessFlags := 26, slot := 1, constantValue := 0 }, { name := "LOG2_ARRAY_BOOLEAN_INDEX_SCALE", type := .int, accessFlags := 25, slot := 2, constantValue := 0 }, { name := "LOG2_ARRAY_BYTE_INDEX_SCALE", type := .int, accessFlags := 25, slot := 3, constantValue := 0 }, { name := "LOG2_ARRAY_CHAR_INDEX_SCALE", type := .int, accessFlags := 25, slot := 4, constantValue := 0 }, { name := "LOG2_ARRAY_SHORT_INDEX_SCALE", type := .int, accessFlags := 25, slot := 5, constantValue := 0 }, { name := "LOG2_ARRAY_INT_INDEX_SCALE", type := .int, accessFlags := 25, slot := 6, constantValue := 0 }, { name := "LOG2_ARRAY_LONG_INDEX_SCALE", type := .int, accessFlags := 25, slot := 7, constantValue := 0 }, { name := "LOG2_ARRAY_FLOAT_INDEX_SCALE", type := .int, accessFlags := 25, slot := 8, constantValue := 0 }, { name := "LOG2_ARRAY_DOUBLE_INDEX_SCALE", type := .int, accessFlags := 25, slot := 9, constantValue := 0 }, { name := "LOG2_BYTE_BIT_SIZE", type := .int, accessFlags := 26, slot := 10, constantValue := 0 }, { name := "T_BOOLEAN", type := .int, accessFlags := 25, slot := 11, constantValue := 0 }, { name := "T_CHAR", type := .int, accessFlags := 25, slot := 12, constantValue := 0 }, { name := "T_FLOAT", type := .int, accessFlags := 25, slot := 13, constantValue := 0 }, { name := "T_DOUBLE", type := .int, accessFlags := 25, slot := 14, constantValue := 0 }, { name := "T_BYTE", type := .int, accessFlags := 25, slot := 15, constantValue := 0 }, { name := "T_SHORT", type := .int, accessFlags := 25, slot := 16, constantValue := 0 }, { name := "T_INT", type := .int, accessFlags := 25, slot := 17, constantValue := 0 }, { name := "T_LONG", type := .int, accessFlags := 25, slot := 18, constantValue := 0 }, { name := "JLA", type := (.object "jdk/internal/access/JavaLangAccess"), accessFlags := 26, slot := 19, constantValue := 0 }, { name := "SOFT_MAX_ARRAY_LENGTH", type := .int, accessFlags := 25, slot := 20, constantValue := 0 }]
  methods := #[k19m0]
  instanceTypes := #[]
  staticTypes := #[(.object "jdk/internal/misc/Unsafe"), .boolean, .int, .int, .int, .int, .int, .int, .int, .int, .int, .int, .int, .int, .int, .int, .int, .int, .int, (.object "jdk/internal/access/JavaLangAccess"), .int]
  resolved := Array.replicate 378 none
  statics := none }

def pool20 : Array CpInfo := pool [(1, u "java/lang/Cloneable"), (0, .class_ 1), (0, u "java/lang/Object"), (0, .class_ 3)] 3

/-- java/lang/Cloneable -/
def k20 : Class := { plain "java/lang/Cloneable" (some 0) with
  accessFlags := 1537
  interfaces := #[]
  cf := some (fileOf pool20 2 #[] #[] 1537 4 #[] #[])
  fields := #[]
  methods := #[]
  instanceTypes := #[]
  staticTypes := #[]
  resolved := Array.replicate 8 none
  statics := none }

/-- the primitive boolean -/
def k21 : Class := { plain "boolean" none with kind := .primitive 'Z', accessFlags := 0x411 }
/-- [Z -/
def k22 : Class := { plain "[Z" (some 0) with kind := .array 21 .boolean, interfaces := #[20, 4], accessFlags := 1041 }

/-- the primitive byte -/
def k23 : Class := { plain "byte" none with kind := .primitive 'B', accessFlags := 0x411 }
/-- [B -/
def k24 : Class := { plain "[B" (some 0) with kind := .array 23 .byte, interfaces := #[20, 4], accessFlags := 1041 }

/-- the primitive char -/
def k25 : Class := { plain "char" none with kind := .primitive 'C', accessFlags := 0x411 }
/-- [C -/
def k26 : Class := { plain "[C" (some 0) with kind := .array 25 .char, interfaces := #[20, 4], accessFlags := 1041 }

/-- the primitive int -/
def k27 : Class := { plain "int" none with kind := .primitive 'I', accessFlags := 0x411 }
/-- [I -/
def k28 : Class := { plain "[I" (some 0) with kind := .array 27 .int, interfaces := #[20, 4], accessFlags := 1041 }

def heap : Heap := #[{ cls := 6, slots := #[.ref 4, .ref 5, .ref 6, .ref 7, .ref 8, .ref 9, .ref 10, .null], vm := .statics 6 },
  { cls := 9, slots := #[.long 0, .int 1, .null, .int 0, .null, .int 0, .int 0], vm := .statics 9 },
  { cls := 16, slots := #[.null, .null, .null], vm := .statics 16 },
  { cls := 17, slots := #[.null, .null, .ref 11, .ref 12], vm := .statics 17 },
  { cls := 6, slots := #[.null, .int 0, .int 0], vm := .none },
  { cls := 6, slots := #[.null, .int 1, .int 0], vm := .none },
  { cls := 6, slots := #[.null, .int 2, .int 0], vm := .none },
  { cls := 6, slots := #[.null, .int 3, .int 0], vm := .none },
  { cls := 6, slots := #[.null, .int 4, .int 0], vm := .none },
  { cls := 6, slots := #[.null, .int 5, .int 0], vm := .none },
  { cls := 6, slots := #[.null, .int 6, .int 0], vm := .none },
  { cls := 22, slots := #[.int 0, .int 0, .int 0, .int 0, .int 0, .int 0, .int 0, .int 0, .int 0, .int 0, .int 0, .int 0, .int 0, .int 0, .int 0, .int 0, .int 0, .int 0, .int 0, .int 0, .int 0, .int 0, .int 0, .int 0, .int 0, .int 0, .int 0, .int 0, .int 0, .int 0, .int 0, .int 0, .int 0, .int 0, .int 0, .int 0, .int 0, .int 0, .int 0, .int 0, .int 0, .int 0, .int 0, .int 0, .int 0, .int 0, .int 0, .int 0, .int 0, .int 0, .int 0, .int 0, .int 0, .int 0, .int 0, .int 0, .int 0, .int 0, .int 0, .int 0, .int 0, .int 0, .int 0, .int 0, .int 0, .int 1, .int 1, .int 1, .int 1, .int 1, .int 1, .int 1, .int 1, .int 1, .int 1, .int 1, .int 1, .int 1, .int 1, .int 1, .int 1, .int 1, .int 1, .int 1, .int 1, .int 1, .int 1, .int 1, .int 1, .int 1, .int 1, .int 0, .int 0, .int 0, .int 0, .int 1, .int 0, .int 1, .int 1, .int 1, .int 1, .int 1, .int 1, .int 1, .int 1, .int 1, .int 1, .int 1, .int 1, .int 1, .int 1, .int 1, .int 1, .int 1, .int 1, .int 1, .int 1, .int 1, .int 1, .int 1, .int 1, .int 1, .int 1, .int 0, .int 0, .int 0, .int 0, .int 0], vm := .none },
  { cls := 22, slots := #[.int 0, .int 0, .int 0, .int 0, .int 0, .int 0, .int 0, .int 0, .int 0, .int 0, .int 0, .int 0, .int 0, .int 0, .int 0, .int 0, .int 0, .int 0, .int 0, .int 0, .int 0, .int 0, .int 0, .int 0, .int 0, .int 0, .int 0, .int 0, .int 0, .int 0, .int 0, .int 0, .int 0, .int 0, .int 0, .int 0, .int 0, .int 0, .int 0, .int 0, .int 0, .int 0, .int 0, .int 0, .int 0, .int 1, .int 1, .int 0, .int 1, .int 1, .int 1, .int 1, .int 1, .int 1, .int 1, .int 1, .int 1, .int 1, .int 0, .int 0, .int 0, .int 0, .int 0, .int 0, .int 0, .int 1, .int 1, .int 1, .int 1, .int 1, .int 1, .int 1, .int 1, .int 1, .int 1, .int 1, .int 1, .int 1, .int 1, .int 1, .int 1, .int 1, .int 1, .int 1, .int 1, .int 1, .int 1, .int 1, .int 1, .int 1, .int 1, .int 0, .int 0, .int 0, .int 0, .int 1, .int 0, .int 1, .int 1, .int 1, .int 1, .int 1, .int 1, .int 1, .int 1, .int 1, .int 1, .int 1, .int 1, .int 1, .int 1, .int 1, .int 1, .int 1, .int 1, .int 1, .int 1, .int 1, .int 1, .int 1, .int 1, .int 1, .int 1, .int 0, .int 0, .int 0, .int 0, .int 0], vm := .none }]
def classes : Array Class := #[k0, k1, k2, k3, k4, k5, k6, k7, k8, k9, k10, k11, k12, k13, k14, k15, k16, k17, k18, k19, k20, k21, k22, k23, k24, k25, k26, k27, k28]
def interned : List (Array UInt16 × Addr) := []
def slotsUsed : Nat := 299
def theMethod : MethodId := ⟨1, 5⟩
def args0 : Array Value := #[.int 1, .int 1, .int 1, .int 1, .int 1, .int 1]
def aboutOver (below : List Frame) : State where
  vm := { classes := classes, interned := interned.toArray }
  heap := heap
  slotsUsed := slotsUsed
  threads := #[{ frames := .invoking theMethod args0 :: below }]
def below0 : List Frame := [.native { method := ⟨0, 0⟩, args := #[] }]
def about1 : State := aboutOver below0
def p0 : Program := .bare "" "" ""
def e0 : Env := launch0.env 0 0 0
theorem w_frames : about1.frames = Frame.invoking theMethod args0 :: below0 := rfl
set_option maxRecDepth 65536 in
theorem w_args : argsFit about1.vm theMethod args0 = true := by decide +kernel
set_option maxRecDepth 65536 in
theorem w_heap : heapFits about1 = true := by decide +kernel
set_option maxRecDepth 65536 in
theorem w_runnable : about1.curStatus? = some .runnable := by decide +kernel
set_option maxRecDepth 65536 in
theorem w_alone : about1.alone = true := by decide +kernel
set_option maxRecDepth 65536 in
theorem w_named : about1.methodNamed? x = some theMethod := by decide +kernel
set_option maxRecDepth 65536 in
theorem w_hears : about1.hears theMethod below0 = true := by decide +kernel
set_option maxRecDepth 65536 in
theorem w_ripe : about1.ripe theMethod args0 below0 = true := by decide +kernel
theorem w_running : about1.status = .running := rfl
set_option maxRecDepth 65536 in
theorem w_room : about1.hasRoom e0.platform room_1 = true :=
  launch0.hasRoom_least _ room_1 (by decide +kernel) (by decide +kernel) (by decide +kernel) (by decide +kernel) (by decide +kernel) (by decide +kernel)
theorem allAtoms_all (ts : List Jvm.Cond) (a : Array Jvm.Value) (st : Jvm.State) : (allAtoms ts).before a st = ts.all (fun c => c.before a st) := by
  induction ts with
  | nil => rfl
  | cons c t ih =>
    show (Jvm.Cond.and c (allAtoms t)).before a st = _
    rw [Jvm.Cond.before_and, ih, List.all_cons]
def words1 : List Jvm.Cond := Jvm.Cond.code x code maxLocals ret :: tables_1
/-- a 'code' word, met by the world's own term for the bytes: nothing is compared byte by byte -/
theorem code_word {y : MethodName} {bytes : ByteArray} {mx : Nat} {rt : Option FieldType} {a : Array Value} {s : State} {m : MethodId} {meth : Method} {c : Code} (h1 : s.methodNamed? y = some m) (h2 : s.vm.method? m = some meth) (h3 : meth.code = some c) (h4 : c.code = bytes)
    (h5 : (c.maxLocals == mx && c.exceptionTable.isEmpty && decide (c.maxStack ≤ mostOperands) && decide (meth.sig.returnType = rt) && !meth.locks && decide (parseMethodDescriptor y.desc = some meth.sig)) = true) : (Jvm.Cond.code y bytes mx rt).before a s = true := by
  simp only [Bool.and_eq_true, beq_iff_eq, Bool.not_eq_true', decide_eq_true_eq] at h5
  obtain ⟨⟨⟨⟨⟨g1, g2⟩, g3⟩, g4⟩, g5⟩, g6⟩ := h5
  simp [Cond.before, Cond.holds, Cond.value, h1, h2, h3, h4, g1, g2, g3, g4, g5, g6]
def isCode : Jvm.Cond → Bool
  | .code _ _ _ _ => true
  | _ => false
theorem all_split {L : List Jvm.Cond} {P : Jvm.Cond → Bool} (h1 : L.all (fun c => isCode c || P c) = true) (h2 : ∀ c ∈ L.filter isCode, P c = true) : L.all P = true := by
  refine List.all_eq_true.mpr fun c hc => ?_
  have h := List.all_eq_true.mp h1 c hc
  rcases Bool.eq_false_or_eq_true (isCode c) with hi | hi
  · exact h2 c (List.mem_filter.mpr ⟨hc, hi⟩)
  · simpa [hi] using h
set_option maxRecDepth 65536 in
theorem w_c0 : (Jvm.Cond.code x code maxLocals ret).before args0 about1 = true := code_word (m := ⟨1, 5⟩) (meth := k1m5) (c := k1c5) (by decide +kernel) rfl rfl rfl (by decide +kernel)
set_option maxRecDepth 65536 in
theorem w_c1 : (Jvm.Cond.code ({ cls := "com/example/thames/thames/engine/NodeTestListedByTreePinLaw", name := "kindOf", desc := "(I)Lcom/example/thames/thames/model/NodeKind;" } : Jvm.MethodName) method_2_code (1 : Nat) (Option.some (Jvm.ClassFile.FieldType.object "com/example/thames/thames/model/NodeKind"))).before args0 about1 = true := code_word (m := ⟨1, 1⟩) (meth := k1m1) (c := k1c1) (by decide +kernel) rfl rfl rfl (by decide +kernel)
set_option maxRecDepth 65536 in
theorem w_c2 : (Jvm.Cond.code ({ cls := "com/example/thames/thames/engine/NodeTestListedByTreePinLaw", name := "xmlChar", desc := "(I)C" } : Jvm.MethodName) method_3_code (1 : Nat) (Option.some Jvm.ClassFile.FieldType.char)).before args0 about1 = true := code_word (m := ⟨1, 2⟩) (meth := k1m2) (c := k1c2) (by decide +kernel) rfl rfl rfl (by decide +kernel)
set_option maxRecDepth 65536 in
theorem w_c3 : (Jvm.Cond.code ({ cls := "java/lang/String", name := "<init>", desc := "([C)V" } : Jvm.MethodName) jdk_42_method_3_code (2 : Nat) (Option.none : Option Jvm.ClassFile.FieldType)).before args0 about1 = true := code_word (m := ⟨9, 1⟩) (meth := k9m1) (c := k9c1) (by decide +kernel) rfl rfl rfl (by decide +kernel)
set_option maxRecDepth 65536 in
theorem w_c4 : (Jvm.Cond.code ({ cls := "java/lang/String", name := "<init>", desc := "([CIILjava/lang/Void;)V" } : Jvm.MethodName) jdk_42_method_149_code (6 : Nat) (Option.none : Option Jvm.ClassFile.FieldType)).before args0 about1 = true := code_word (m := ⟨9, 6⟩) (meth := k9m6) (c := k9c6) (by decide +kernel) rfl rfl rfl (by decide +kernel)
set_option maxRecDepth 65536 in
theorem w_c5 : (Jvm.Cond.code ({ cls := "java/lang/Object", name := "<init>", desc := "()V" } : Jvm.MethodName) object_method_1_code (1 : Nat) (Option.none : Option Jvm.ClassFile.FieldType)).before args0 about1 = true := code_word (m := ⟨0, 0⟩) (meth := k0m0) (c := k0c0) (by decide +kernel) rfl rfl rfl (by decide +kernel)
set_option maxRecDepth 65536 in
theorem w_c6 : (Jvm.Cond.code ({ cls := "java/lang/StringUTF16", name := "compress", desc := "([CII)[B" } : Jvm.MethodName) jdk_52_method_16_code (6 : Nat) (Option.some (Jvm.ClassFile.FieldType.array Jvm.ClassFile.FieldType.byte))).before args0 about1 = true := code_word (m := ⟨10, 2⟩) (meth := k10m2) (c := k10c2) (by decide +kernel) rfl rfl rfl (by decide +kernel)
set_option maxRecDepth 65536 in
theorem w_c7 : (Jvm.Cond.code ({ cls := "java/lang/StringUTF16", name := "compress", desc := "([CI[BII)I" } : Jvm.MethodName) jdk_52_method_21_code (7 : Nat) (Option.some Jvm.ClassFile.FieldType.int)).before args0 about1 = true := code_word (m := ⟨10, 3⟩) (meth := k10m3) (c := k10c3) (by decide +kernel) rfl rfl rfl (by decide +kernel)
set_option maxRecDepth 65536 in
theorem w_c8 : (Jvm.Cond.code ({ cls := "java/lang/StringUTF16", name := "coderFromArrayLen", desc := "([BI)B" } : Jvm.MethodName) jdk_52_method_15_code (2 : Nat) (Option.some Jvm.ClassFile.FieldType.byte)).before args0 about1 = true := code_word (m := ⟨10, 1⟩) (meth := k10m1) (c := k10c1) (by decide +kernel) rfl rfl rfl (by decide +kernel)
set_option maxRecDepth 65536 in
theorem w_c9 : (Jvm.Cond.code ({ cls := "com/example/thames/thames/engine/NodeTestListedByTreePinLaw", name := "startChar", desc := "(I)C" } : Jvm.MethodName) method_4_code (2 : Nat) (Option.some Jvm.ClassFile.FieldType.char)).before args0 about1 = true := code_word (m := ⟨1, 3⟩) (meth := k1m3) (c := k1c3) (by decide +kernel) rfl rfl rfl (by decide +kernel)
set_option maxRecDepth 65536 in
theorem w_c10 : (Jvm.Cond.code ({ cls := "com/example/thames/thames/engine/NodeTestListedByTreePinLaw", name := "nameChar", desc := "(I)C" } : Jvm.MethodName) method_5_code (2 : Nat) (Option.some Jvm.ClassFile.FieldType.char)).before args0 about1 = true := code_word (m := ⟨1, 4⟩) (meth := k1m4) (c := k1c4) (by decide +kernel) rfl rfl rfl (by decide +kernel)
set_option maxRecDepth 65536 in
theorem w_c11 : (Jvm.Cond.code ({ cls := "com/example/thames/thames/engine/NodeTest", name := "<init>", desc := "(Lcom/example/thames/thames/model/NodeKind;Ljava/lang/String;Ljava/lang/String;)V" } : Jvm.MethodName) prog_106_method_1_code (4 : Nat) (Option.none : Option Jvm.ClassFile.FieldType)).before args0 about1 = true := code_word (m := ⟨11, 0⟩) (meth := k11m0) (c := k11c0) (by decide +kernel) rfl rfl rfl (by decide +kernel)
set_option maxRecDepth 65536 in
theorem w_c12 : (Jvm.Cond.code ({ cls := "com/example/thames/thames/engine/NodeTest", name := "<init>", desc := "(Lcom/example/thames/thames/model/NodeKind;Ljava/lang/String;Ljava/lang/String;Lcom/example/thames/thames/model/SchemaType;Lcom/example/thames/thames/engine/NodeTest;)V" } : Jvm.MethodName) prog_106_method_2_code (7 : Nat) (Option.none : Option Jvm.ClassFile.FieldType)).before args0 about1 = true := code_word (m := ⟨11, 1⟩) (meth := k11m1) (c := k11c1) (by decide +kernel) rfl rfl rfl (by decide +kernel)
set_option maxRecDepth 65536 in
theorem w_c13 : (Jvm.Cond.code ({ cls := "com/example/thames/thames/engine/NodeTest", name := "testsElementNameAlone", desc := "()Z" } : Jvm.MethodName) prog_106_method_5_code (1 : Nat) (Option.some Jvm.ClassFile.FieldType.boolean)).before args0 about1 = true := code_word (m := ⟨11, 2⟩) (meth := k11m2) (c := k11c2) (by decide +kernel) rfl rfl rfl (by decide +kernel)
set_option maxRecDepth 65536 in
theorem w_c14 : (Jvm.Cond.code ({ cls := "com/example/thames/thames/engine/NodeTest", name := "listedByTree", desc := "()Z" } : Jvm.MethodName) prog_106_method_7_code (2 : Nat) (Option.some Jvm.ClassFile.FieldType.boolean)).before args0 about1 = true := code_word (m := ⟨11, 3⟩) (meth := k11m3) (c := k11c3) (by decide +kernel) rfl rfl rfl (by decide +kernel)
set_option maxRecDepth 65536 in
theorem w_c15 : (Jvm.Cond.code ({ cls := "com/example/thames/thames/model/ElementQuery", name := "named", desc := "(Ljava/lang/String;Ljava/lang/String;)Lcom/example/thames/thames/model/ElementQuery;" } : Jvm.MethodName) prog_174_method_2_code (3 : Nat) (Option.some (Jvm.ClassFile.FieldType.object "com/example/thames/thames/model/ElementQuery"))).before args0 about1 = true := code_word (m := ⟨12, 1⟩) (meth := k12m1) (c := k12c1) (by decide +kernel) rfl rfl rfl (by decide +kernel)
set_option maxRecDepth 65536 in
theorem w_c16 : (Jvm.Cond.code ({ cls := "com/example/thames/thames/model/ExpandedQName", name := "requireLocalName", desc := "(Ljava/lang/String;)V" } : Jvm.MethodName) prog_176_method_5_code (1 : Nat) (Option.none : Option Jvm.ClassFile.FieldType)).before args0 about1 = true := code_word (m := ⟨13, 2⟩) (meth := k13m2) (c := k13c2) (by decide +kernel) rfl rfl rfl (by decide +kernel)
set_option maxRecDepth 65536 in
theorem w_c17 : (Jvm.Cond.code ({ cls := "com/example/thames/thames/model/ExpandedQName", name := "isNCName", desc := "(Ljava/lang/CharSequence;)Z" } : Jvm.MethodName) prog_176_method_7_code (4 : Nat) (Option.some Jvm.ClassFile.FieldType.boolean)).before args0 about1 = true := code_word (m := ⟨13, 3⟩) (meth := k13m3) (c := k13c3) (by decide +kernel) rfl rfl rfl (by decide +kernel)
set_option maxRecDepth 65536 in
theorem w_c18 : (Jvm.Cond.code ({ cls := "java/lang/String", name := "length", desc := "()I" } : Jvm.MethodName) jdk_42_method_54_code (1 : Nat) (Option.some Jvm.ClassFile.FieldType.int)).before args0 about1 = true := code_word (m := ⟨9, 2⟩) (meth := k9m2) (c := k9c2) (by decide +kernel) rfl rfl rfl (by decide +kernel)
set_option maxRecDepth 65536 in
theorem w_c19 : (Jvm.Cond.code ({ cls := "java/lang/String", name := "coder", desc := "()B" } : Jvm.MethodName) jdk_42_method_152_code (1 : Nat) (Option.some Jvm.ClassFile.FieldType.byte)).before args0 about1 = true := code_word (m := ⟨9, 7⟩) (meth := k9m7) (c := k9c7) (by decide +kernel) rfl rfl rfl (by decide +kernel)
set_option maxRecDepth 65536 in
theorem w_c20 : (Jvm.Cond.code ({ cls := "java/lang/Character", name := "codePointAt", desc := "(Ljava/lang/CharSequence;I)I" } : Jvm.MethodName) jdk_89_method_20_code (4 : Nat) (Option.some Jvm.ClassFile.FieldType.int)).before args0 about1 = true := code_word (m := ⟨14, 2⟩) (meth := k14m2) (c := k14c2) (by decide +kernel) rfl rfl rfl (by decide +kernel)
set_option maxRecDepth 65536 in
theorem w_c21 : (Jvm.Cond.code ({ cls := "java/lang/String", name := "charAt", desc := "(I)C" } : Jvm.MethodName) jdk_42_method_56_code (2 : Nat) (Option.some Jvm.ClassFile.FieldType.char)).before args0 about1 = true := code_word (m := ⟨9, 4⟩) (meth := k9m4) (c := k9c4) (by decide +kernel) rfl rfl rfl (by decide +kernel)
set_option maxRecDepth 65536 in
theorem w_c22 : (Jvm.Cond.code ({ cls := "java/lang/String", name := "isLatin1", desc := "()Z" } : Jvm.MethodName) jdk_42_method_154_code (1 : Nat) (Option.some Jvm.ClassFile.FieldType.boolean)).before args0 about1 = true := code_word (m := ⟨9, 8⟩) (meth := k9m8) (c := k9c8) (by decide +kernel) rfl rfl rfl (by decide +kernel)
set_option maxRecDepth 65536 in
theorem w_c23 : (Jvm.Cond.code ({ cls := "java/lang/StringLatin1", name := "charAt", desc := "([BI)C" } : Jvm.MethodName) jdk_43_method_2_code (2 : Nat) (Option.some Jvm.ClassFile.FieldType.char)).before args0 about1 = true := code_word (m := ⟨15, 1⟩) (meth := k15m1) (c := k15c1) (by decide +kernel) rfl rfl rfl (by decide +kernel)
set_option maxRecDepth 65536 in
theorem w_c24 : (Jvm.Cond.code ({ cls := "java/lang/String", name := "checkIndex", desc := "(II)V" } : Jvm.MethodName) jdk_42_method_155_code (2 : Nat) (Option.none : Option Jvm.ClassFile.FieldType)).before args0 about1 = true := code_word (m := ⟨9, 9⟩) (meth := k9m9) (c := k9c9) (by decide +kernel) rfl rfl rfl (by decide +kernel)
set_option maxRecDepth 65536 in
theorem w_c25 : (Jvm.Cond.code ({ cls := "jdk/internal/util/Preconditions", name := "checkIndex", desc := "(IILjava/util/function/BiFunction;)I" } : Jvm.MethodName) jdk_41_method_11_code (3 : Nat) (Option.some Jvm.ClassFile.FieldType.int)).before args0 about1 = true := code_word (m := ⟨16, 1⟩) (meth := k16m1) (c := k16c1) (by decide +kernel) rfl rfl rfl (by decide +kernel)
set_option maxRecDepth 65536 in
theorem w_c26 : (Jvm.Cond.code ({ cls := "java/lang/Character", name := "isHighSurrogate", desc := "(C)Z" } : Jvm.MethodName) jdk_89_method_14_code (1 : Nat) (Option.some Jvm.ClassFile.FieldType.boolean)).before args0 about1 = true := code_word (m := ⟨14, 0⟩) (meth := k14m0) (c := k14c0) (by decide +kernel) rfl rfl rfl (by decide +kernel)
set_option maxRecDepth 65536 in
theorem w_c27 : (Jvm.Cond.code ({ cls := "com/example/thames/thames/model/XmlCharacters", name := "isNCNameStartChar", desc := "(I)Z" } : Jvm.MethodName) prog_228_method_11_code (2 : Nat) (Option.some Jvm.ClassFile.FieldType.boolean)).before args0 about1 = true := code_word (m := ⟨17, 4⟩) (meth := k17m4) (c := k17c4) (by decide +kernel) rfl rfl rfl (by decide +kernel)
set_option maxRecDepth 65536 in
theorem w_c28 : (Jvm.Cond.code ({ cls := "java/lang/Character", name := "charCount", desc := "(I)I" } : Jvm.MethodName) jdk_89_method_18_code (1 : Nat) (Option.some Jvm.ClassFile.FieldType.int)).before args0 about1 = true := code_word (m := ⟨14, 1⟩) (meth := k14m1) (c := k14c1) (by decide +kernel) rfl rfl rfl (by decide +kernel)
set_option maxRecDepth 65536 in
theorem w_c29 : (Jvm.Cond.code ({ cls := "com/example/thames/thames/model/XmlCharacters", name := "isNCNameChar", desc := "(I)Z" } : Jvm.MethodName) prog_228_method_12_code (2 : Nat) (Option.some Jvm.ClassFile.FieldType.boolean)).before args0 about1 = true := code_word (m := ⟨17, 5⟩) (meth := k17m5) (c := k17c5) (by decide +kernel) rfl rfl rfl (by decide +kernel)
set_option maxRecDepth 65536 in
theorem w_c30 : (Jvm.Cond.code ({ cls := "com/example/thames/thames/model/ExpandedQName", name := "requireXmlNamespaceUri", desc := "(Ljava/lang/String;)V" } : Jvm.MethodName) prog_176_method_4_code (1 : Nat) (Option.none : Option Jvm.ClassFile.FieldType)).before args0 about1 = true := code_word (m := ⟨13, 1⟩) (meth := k13m1) (c := k13c1) (by decide +kernel) rfl rfl rfl (by decide +kernel)
set_option maxRecDepth 65536 in
theorem w_c31 : (Jvm.Cond.code ({ cls := "com/example/thames/thames/model/XmlCharacters", name := "requireXmlCharacters", desc := "(Ljava/lang/String;Ljava/lang/String;)V" } : Jvm.MethodName) prog_228_method_7_code (3 : Nat) (Option.none : Option Jvm.ClassFile.FieldType)).before args0 about1 = true := code_word (m := ⟨17, 3⟩) (meth := k17m3) (c := k17c3) (by decide +kernel) rfl rfl rfl (by decide +kernel)
set_option maxRecDepth 65536 in
theorem w_c32 : (Jvm.Cond.code ({ cls := "com/example/thames/thames/model/XmlCharacters", name := "indexOfNonXmlCharacter", desc := "(Ljava/lang/String;)I" } : Jvm.MethodName) prog_228_method_6_code (3 : Nat) (Option.some Jvm.ClassFile.FieldType.int)).before args0 about1 = true := code_word (m := ⟨17, 2⟩) (meth := k17m2) (c := k17c2) (by decide +kernel) rfl rfl rfl (by decide +kernel)
set_option maxRecDepth 65536 in
theorem w_c33 : (Jvm.Cond.code ({ cls := "com/example/thames/thames/model/ExpandedQName", name := "<init>", desc := "(Ljava/lang/String;Ljava/lang/String;Ljava/lang/String;)V" } : Jvm.MethodName) prog_176_method_1_code (4 : Nat) (Option.none : Option Jvm.ClassFile.FieldType)).before args0 about1 = true := code_word (m := ⟨13, 0⟩) (meth := k13m0) (c := k13c0) (by decide +kernel) rfl rfl rfl (by decide +kernel)
set_option maxRecDepth 65536 in
theorem w_c34 : (Jvm.Cond.code ({ cls := "java/util/Objects", name := "requireNonNull", desc := "(Ljava/lang/Object;Ljava/lang/String;)Ljava/lang/Object;" } : Jvm.MethodName) jdk_31_method_11_code (2 : Nat) (Option.some (Jvm.ClassFile.FieldType.object "java/lang/Object"))).before args0 about1 = true := code_word (m := ⟨18, 1⟩) (meth := k18m1) (c := k18c1) (by decide +kernel) rfl rfl rfl (by decide +kernel)
set_option maxRecDepth 65536 in
theorem w_c35 : (Jvm.Cond.code ({ cls := "java/lang/String", name := "isEmpty", desc := "()Z" } : Jvm.MethodName) jdk_42_method_55_code (1 : Nat) (Option.some Jvm.ClassFile.FieldType.boolean)).before args0 about1 = true := code_word (m := ⟨9, 3⟩) (meth := k9m3) (c := k9c3) (by decide +kernel) rfl rfl rfl (by decide +kernel)
set_option maxRecDepth 65536 in
theorem w_c36 : (Jvm.Cond.code ({ cls := "com/example/thames/thames/model/ElementQuery", name := "<init>", desc := "(Ljava/lang/String;Ljava/lang/String;Lcom/example/thames/thames/model/ExpandedQName;Lcom/example/thames/thames/model/ExpandedQName;Z)V" } : Jvm.MethodName) prog_174_method_1_code (6 : Nat) (Option.none : Option Jvm.ClassFile.FieldType)).before args0 about1 = true := code_word (m := ⟨12, 0⟩) (meth := k12m0) (c := k12c0) (by decide +kernel) rfl rfl rfl (by decide +kernel)
set_option maxRecDepth 65536 in
theorem w_c37 : (Jvm.Cond.code ({ cls := "java/lang/String", name := "codePointAt", desc := "(I)I" } : Jvm.MethodName) jdk_42_method_57_code (3 : Nat) (Option.some Jvm.ClassFile.FieldType.int)).before args0 about1 = true := code_word (m := ⟨9, 5⟩) (meth := k9m5) (c := k9c5) (by decide +kernel) rfl rfl rfl (by decide +kernel)
set_option maxRecDepth 65536 in
theorem w_c38 : (Jvm.Cond.code ({ cls := "com/example/thames/thames/model/XmlCharacters", name := "isXmlCharacter", desc := "(I)Z" } : Jvm.MethodName) prog_228_method_5_code (1 : Nat) (Option.some Jvm.ClassFile.FieldType.boolean)).before args0 about1 = true := code_word (m := ⟨17, 1⟩) (meth := k17m1) (c := k17c1) (by decide +kernel) rfl rfl rfl (by decide +kernel)
def codes1 : List Jvm.Cond := [Jvm.Cond.code x code maxLocals ret, Jvm.Cond.code ({ cls := "com/example/thames/thames/engine/NodeTestListedByTreePinLaw", name := "kindOf", desc := "(I)Lcom/example/thames/thames/model/NodeKind;" } : Jvm.MethodName) method_2_code (1 : Nat) (Option.some (Jvm.ClassFile.FieldType.object "com/example/thames/thames/model/NodeKind")), Jvm.Cond.code ({ cls := "com/example/thames/thames/engine/NodeTestListedByTreePinLaw", name := "xmlChar", desc := "(I)C" } : Jvm.MethodName) method_3_code (1 : Nat) (Option.some Jvm.ClassFile.FieldType.char), Jvm.Cond.code ({ cls := "java/lang/String", name := "<init>", desc := "([C)V" } : Jvm.MethodName) jdk_42_method_3_code (2 : Nat) (Option.none : Option Jvm.ClassFile.FieldType), Jvm.Cond.code ({ cls := "java/lang/String", name := "<init>", desc := "([CIILjava/lang/Void;)V" } : Jvm.MethodName) jdk_42_method_149_code (6 : Nat) (Option.none : Option Jvm.ClassFile.FieldType), Jvm.Cond.code ({ cls := "java/lang/Object", name := "<init>", desc := "()V" } : Jvm.MethodName) object_method_1_code (1 : Nat) (Option.none : Option Jvm.ClassFile.FieldType), Jvm.Cond.code ({ cls := "java/lang/StringUTF16", name := "compress", desc := "([CII)[B" } : Jvm.MethodName) jdk_52_method_16_code (6 : Nat) (Option.some (Jvm.ClassFile.FieldType.array Jvm.ClassFile.FieldType.byte)), Jvm.Cond.code ({ cls := "java/lang/StringUTF16", name := "compress", desc := "([CI[BII)I" } : Jvm.MethodName) jdk_52_method_21_code (7 : Nat) (Option.some Jvm.ClassFile.FieldType.int), Jvm.Cond.code ({ cls := "java/lang/StringUTF16", name := "coderFromArrayLen", desc := "([BI)B" } : Jvm.MethodName) jdk_52_method_15_code (2 : Nat) (Option.some Jvm.ClassFile.FieldType.byte), Jvm.Cond.code ({ cls := "com/example/thames/thames/engine/NodeTestListedByTreePinLaw", name := "startChar", desc := "(I)C" } : Jvm.MethodName) method_4_code (2 : Nat) (Option.some Jvm.ClassFile.FieldType.char), Jvm.Cond.code ({ cls := "com/example/thames/thames/engine/NodeTestListedByTreePinLaw", name := "nameChar", desc := "(I)C" } : Jvm.MethodName) method_5_code (2 : Nat) (Option.some Jvm.ClassFile.FieldType.char), Jvm.Cond.code ({ cls := "com/example/thames/thames/engine/NodeTest", name := "<init>", desc := "(Lcom/example/thames/thames/model/NodeKind;Ljava/lang/String;Ljava/lang/String;)V" } : Jvm.MethodName) prog_106_method_1_code (4 : Nat) (Option.none : Option Jvm.ClassFile.FieldType), Jvm.Cond.code ({ cls := "com/example/thames/thames/engine/NodeTest", name := "<init>", desc := "(Lcom/example/thames/thames/model/NodeKind;Ljava/lang/String;Ljava/lang/String;Lcom/example/thames/thames/model/SchemaType;Lcom/example/thames/thames/engine/NodeTest;)V" } : Jvm.MethodName) prog_106_method_2_code (7 : Nat) (Option.none : Option Jvm.ClassFile.FieldType), Jvm.Cond.code ({ cls := "com/example/thames/thames/engine/NodeTest", name := "testsElementNameAlone", desc := "()Z" } : Jvm.MethodName) prog_106_method_5_code (1 : Nat) (Option.some Jvm.ClassFile.FieldType.boolean), Jvm.Cond.code ({ cls := "com/example/thames/thames/engine/NodeTest", name := "listedByTree", desc := "()Z" } : Jvm.MethodName) prog_106_method_7_code (2 : Nat) (Option.some Jvm.ClassFile.FieldType.boolean), Jvm.Cond.code ({ cls := "com/example/thames/thames/model/ElementQuery", name := "named", desc := "(Ljava/lang/String;Ljava/lang/String;)Lcom/example/thames/thames/model/ElementQuery;" } : Jvm.MethodName) prog_174_method_2_code (3 : Nat) (Option.some (Jvm.ClassFile.FieldType.object "com/example/thames/thames/model/ElementQuery")), Jvm.Cond.code ({ cls := "com/example/thames/thames/model/ExpandedQName", name := "requireLocalName", desc := "(Ljava/lang/String;)V" } : Jvm.MethodName) prog_176_method_5_code (1 : Nat) (Option.none : Option Jvm.ClassFile.FieldType), Jvm.Cond.code ({ cls := "com/example/thames/thames/model/ExpandedQName", name := "isNCName", desc := "(Ljava/lang/CharSequence;)Z" } : Jvm.MethodName) prog_176_method_7_code (4 : Nat) (Option.some Jvm.ClassFile.FieldType.boolean), Jvm.Cond.code ({ cls := "java/lang/String", name := "length", desc := "()I" } : Jvm.MethodName) jdk_42_method_54_code (1 : Nat) (Option.some Jvm.ClassFile.FieldType.int), Jvm.Cond.code ({ cls := "java/lang/String", name := "coder", desc := "()B" } : Jvm.MethodName) jdk_42_method_152_code (1 : Nat) (Option.some Jvm.ClassFile.FieldType.byte), Jvm.Cond.code ({ cls := "java/lang/Character", name := "codePointAt", desc := "(Ljava/lang/CharSequence;I)I" } : Jvm.MethodName) jdk_89_method_20_code (4 : Nat) (Option.some Jvm.ClassFile.FieldType.int), Jvm.Cond.code ({ cls := "java/lang/String", name := "charAt", desc := "(I)C" } : Jvm.MethodName) jdk_42_method_56_code (2 : Nat) (Option.some Jvm.ClassFile.FieldType.char), Jvm.Cond.code ({ cls := "java/lang/String", name := "isLatin1", desc := "()Z" } : Jvm.MethodName) jdk_42_method_154_code (1 : Nat) (Option.some Jvm.ClassFile.FieldType.boolean), Jvm.Cond.code ({ cls := "java/lang/StringLatin1", name := "charAt", desc := "([BI)C" } : Jvm.MethodName) jdk_43_method_2_code (2 : Nat) (Option.some Jvm.ClassFile.FieldType.char), Jvm.Cond.code ({ cls := "java/lang/String", name := "checkIndex", desc := "(II)V" } : Jvm.MethodName) jdk_42_method_155_code (2 : Nat) (Option.none : Option Jvm.ClassFile.FieldType), Jvm.Cond.code ({ cls := "jdk/internal/util/Preconditions", name := "checkIndex", desc := "(IILjava/util/function/BiFunction;)I" } : Jvm.MethodName) jdk_41_method_11_code (3 : Nat) (Option.some Jvm.ClassFile.FieldType.int), Jvm.Cond.code ({ cls := "java/lang/Character", name := "isHighSurrogate", desc := "(C)Z" } : Jvm.MethodName) jdk_89_method_14_code (1 : Nat) (Option.some Jvm.ClassFile.FieldType.boolean), Jvm.Cond.code ({ cls := "com/example/thames/thames/model/XmlCharacters", name := "isNCNameStartChar", desc := "(I)Z" } : Jvm.MethodName) prog_228_method_11_code (2 : Nat) (Option.some Jvm.ClassFile.FieldType.boolean), Jvm.Cond.code ({ cls := "java/lang/Character", name := "charCount", desc := "(I)I" } : Jvm.MethodName) jdk_89_method_18_code (1 : Nat) (Option.some Jvm.ClassFile.FieldType.int), Jvm.Cond.code ({ cls := "com/example/thames/thames/model/XmlCharacters", name := "isNCNameChar", desc := "(I)Z" } : Jvm.MethodName) prog_228_method_12_code (2 : Nat) (Option.some Jvm.ClassFile.FieldType.boolean), Jvm.Cond.code ({ cls := "com/example/thames/thames/model/ExpandedQName", name := "requireXmlNamespaceUri", desc := "(Ljava/lang/String;)V" } : Jvm.MethodName) prog_176_method_4_code (1 : Nat) (Option.none : Option Jvm.ClassFile.FieldType), Jvm.Cond.code ({ cls := "com/example/thames/thames/model/XmlCharacters", name := "requireXmlCharacters", desc := "(Ljava/lang/String;Ljava/lang/String;)V" } : Jvm.MethodName) prog_228_method_7_code (3 : Nat) (Option.none : Option Jvm.ClassFile.FieldType), Jvm.Cond.code ({ cls := "com/example/thames/thames/model/XmlCharacters", name := "indexOfNonXmlCharacter", desc := "(Ljava/lang/String;)I" } : Jvm.MethodName) prog_228_method_6_code (3 : Nat) (Option.some Jvm.ClassFile.FieldType.int), Jvm.Cond.code ({ cls := "com/example/thames/thames/model/ExpandedQName", name := "<init>", desc := "(Ljava/lang/String;Ljava/lang/String;Ljava/lang/String;)V" } : Jvm.MethodName) prog_176_method_1_code (4 : Nat) (Option.none : Option Jvm.ClassFile.FieldType), Jvm.Cond.code ({ cls := "java/util/Objects", name := "requireNonNull", desc := "(Ljava/lang/Object;Ljava/lang/String;)Ljava/lang/Object;" } : Jvm.MethodName) jdk_31_method_11_code (2 : Nat) (Option.some (Jvm.ClassFile.FieldType.object "java/lang/Object")), Jvm.Cond.code ({ cls := "java/lang/String", name := "isEmpty", desc := "()Z" } : Jvm.MethodName) jdk_42_method_55_code (1 : Nat) (Option.some Jvm.ClassFile.FieldType.boolean), Jvm.Cond.code ({ cls := "com/example/thames/thames/model/ElementQuery", name := "<init>", desc := "(Ljava/lang/String;Ljava/lang/String;Lcom/example/thames/thames/model/ExpandedQName;Lcom/example/thames/thames/model/ExpandedQName;Z)V" } : Jvm.MethodName) prog_174_method_1_code (6 : Nat) (Option.none : Option Jvm.ClassFile.FieldType), Jvm.Cond.code ({ cls := "java/lang/String", name := "codePointAt", desc := "(I)I" } : Jvm.MethodName) jdk_42_method_57_code (3 : Nat) (Option.some Jvm.ClassFile.FieldType.int), Jvm.Cond.code ({ cls := "com/example/thames/thames/model/XmlCharacters", name := "isXmlCharacter", desc := "(I)Z" } : Jvm.MethodName) prog_228_method_5_code (1 : Nat) (Option.some Jvm.ClassFile.FieldType.boolean)]
set_option maxRecDepth 65536 in
theorem codes_eq : words1.filter isCode = codes1 := rfl
theorem w_codes : ∀ c ∈ words1.filter isCode, c.before args0 about1 = true := by
  rw [codes_eq]
  intro c hc
  simp only [codes1, List.mem_cons, List.not_mem_nil, or_false] at hc
  rcases hc with rfl | rfl | rfl | rfl | rfl | rfl | rfl | rfl | rfl | rfl | rfl | rfl | rfl | rfl | rfl | rfl | rfl | rfl | rfl | rfl | rfl | rfl | rfl | rfl | rfl | rfl | rfl | rfl | rfl | rfl | rfl | rfl | rfl | rfl | rfl | rfl | rfl | rfl | rfl
  · exact w_c0
  · exact w_c1
  · exact w_c2
  · exact w_c3
  · exact w_c4
  · exact w_c5
  · exact w_c6
  · exact w_c7
  · exact w_c8
  · exact w_c9
  · exact w_c10
  · exact w_c11
  · exact w_c12
  · exact w_c13
  · exact w_c14
  · exact w_c15
  · exact w_c16
  · exact w_c17
  · exact w_c18
  · exact w_c19
  · exact w_c20
  · exact w_c21
  · exact w_c22
  · exact w_c23
  · exact w_c24
  · exact w_c25
  · exact w_c26
  · exact w_c27
  · exact w_c28
  · exact w_c29
  · exact w_c30
  · exact w_c31
  · exact w_c32
  · exact w_c33
  · exact w_c34
  · exact w_c35
  · exact w_c36
  · exact w_c37
  · exact w_c38
set_option maxRecDepth 65536 in
theorem w_t1 : (words1.take 24).all (fun c => isCode c || c.before args0 about1) = true := by decide +kernel
set_option maxRecDepth 65536 in
theorem w_t2 : ((words1.drop 24).take 24).all (fun c => isCode c || c.before args0 about1) = true := by decide +kernel
set_option maxRecDepth 65536 in
theorem w_t3 : (((words1.drop 24).drop 24).take 24).all (fun c => isCode c || c.before args0 about1) = true := by decide +kernel
set_option maxRecDepth 65536 in
theorem w_t4 : ((((words1.drop 24).drop 24).drop 24).take 24).all (fun c => isCode c || c.before args0 about1) = true := by decide +kernel
set_option maxRecDepth 65536 in
theorem w_t5 : (((((words1.drop 24).drop 24).drop 24).drop 24).take 24).all (fun c => isCode c || c.before args0 about1) = true := by decide +kernel
set_option maxRecDepth 65536 in
theorem w_t6 : ((((((words1.drop 24).drop 24).drop 24).drop 24).drop 24).take 24).all (fun c => isCode c || c.before args0 about1) = true := by decide +kernel
set_option maxRecDepth 65536 in
theorem w_t7 : (((((((words1.drop 24).drop 24).drop 24).drop 24).drop 24).drop 24).take 24).all (fun c => isCode c || c.before args0 about1) = true := by decide +kernel
set_option maxRecDepth 65536 in
theorem w_t8 : ((((((((words1.drop 24).drop 24).drop 24).drop 24).drop 24).drop 24).drop 24).take 24).all (fun c => isCode c || c.before args0 about1) = true := by decide +kernel
set_option maxRecDepth 65536 in
theorem w_t9 : (((((((((words1.drop 24).drop 24).drop 24).drop 24).drop 24).drop 24).drop 24).drop 24).take 24).all (fun c => isCode c || c.before args0 about1) = true := by decide +kernel
set_option maxRecDepth 65536 in
theorem w_t10 : (((((((((words1.drop 24).drop 24).drop 24).drop 24).drop 24).drop 24).drop 24).drop 24).drop 24).all (fun c => isCode c || c.before args0 about1) = true := by decide +kernel
theorem w_tables : (allAtoms (Jvm.Cond.code x code maxLocals ret :: tables_1)).before args0 about1 = true := by
  rw [allAtoms_all]
  show words1.all (fun c => c.before args0 about1) = true
  refine all_split ?_ w_codes
  rw [← List.take_append_drop 24 words1, List.all_append, w_t1, ← List.take_append_drop 24 (words1.drop 24), List.all_append, w_t2, ← List.take_append_drop 24 ((words1.drop 24).drop 24), List.all_append, w_t3, ← List.take_append_drop 24 (((words1.drop 24).drop 24).drop 24), List.all_append, w_t4, ← List.take_append_drop 24 ((((words1.drop 24).drop 24).drop 24).drop 24), List.all_append, w_t5, ← List.take_append_drop 24 (((((words1.drop 24).drop 24).drop 24).drop 24).drop 24), List.all_append, w_t6, ← List.take_append_drop 24 ((((((words1.drop 24).drop 24).drop 24).drop 24).drop 24).drop 24), List.all_append, w_t7, ← List.take_append_drop 24 (((((((words1.drop 24).drop 24).drop 24).drop 24).drop 24).drop 24).drop 24), List.all_append, w_t8, ← List.take_append_drop 24 ((((((((words1.drop 24).drop 24).drop 24).drop 24).drop 24).drop 24).drop 24).drop 24), List.all_append, w_t9, w_t10]
  rfl
set_option maxRecDepth 65536 in
theorem w_rest : rest_1_c.before args0 about1 = true := by decide +kernel
set_option maxRecDepth 65536 in
theorem w_case : (Jvm.Cond.and given_1 narrow_1).before args0 about1 = true := by decide +kernel
set_option maxRecDepth 65536 in
theorem w_consts : constsHeld consts_1 about1 := Jvm.Lit.constsHeldB_iff.mp (by decide +kernel)
theorem w_applies : (headSpec (Jvm.Cond.code x code maxLocals ret :: tables_1) room_1).applies x e0.platform about1 = true :=
  (Spec.applies_iff w_frames).mpr ⟨w_running, w_runnable, w_alone, w_named, w_hears, w_ripe, w_room, w_tables⟩
theorem atStart : AtStart classFile x code maxLocals ret World_1 tables_1 room_1 Calls_1 rest_1 Pre_1 launch0 p0 e0 about1 theMethod args0 below0 :=
  ⟨lists_1, trivial, launch0.admits_env _ _ _, launch0.least_env, fairChoices_fair.cas, fairChoices_fair.clock, w_frames, w_args, w_heap, w_applies, ⟨w_consts, trivial⟩, w_rest, w_case⟩
end start1
theorem witness_1 : WitnessClaimed_1 := ⟨start1.p0, start1.e0, start1.about1, start1.theMethod, start1.args0, start1.below0, start1.atStart⟩
end Jvm.Pilot.@@N@@
