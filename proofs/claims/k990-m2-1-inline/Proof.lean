import JvmDerived
import JvmDerived.Pilot.@@N@@Statement
import JvmDerived.Pilot.@@N@@Code
set_option linter.unusedVariables false
set_option linter.unusedSimpArgs false
@@BLOCK:TracedD.lean.txt@@
/- laws to paste: Road.backV, Road.chN, Road.codOf (cut by pick.py; bodies as the Statement names them) -/
namespace Jvm.Pilot.@@N@@
namespace StrChars
open Jvm Sem ClassFile Op Lib Jvm.Stand Jvm.Free.XT Jvm.Free.ALB Jvm.Free.JM Jvm.Free
open Jvm.Lib.Cold (StaticIs)
/-- a char array whose places are chars -/
def Ch (a : Addr) (A : Cell) (U : State) : Prop := Arr .char a A U ∧ Typed .char A
theorem Ch.mv {a : Addr} {A : Cell} {U U' : State} (h : Ch a A U) (hal : U.vm.Alike U'.vm) (hh : U'.heap = U.heap) : Ch a A U' := ⟨h.1.mv hal hh, h.2⟩
theorem Ch.keep {a : Addr} {A : Cell} {U U' : State} (h : Ch a A U) (hal : U.vm.Alike U'.vm) (hk : U'.heap[a]? = some A) : Ch a A U' := ⟨h.1.keep hal hk, h.2⟩
/-- what place i of a char[]'s cell holds -/
def cv (A : Cell) (i : Nat) : Int32 := match A.slots[i]? with | some (.int x) => x | _ => 0
theorem Ch.get {a : Addr} {A : Cell} {U : State} (h : Ch a A U) {i : Nat} (hi : i < A.slots.size) : A.slots[i]? = some (.int (cv A i)) := by
  have e := Array.getElem?_eq_getElem hi
  have f := h.2 i _ e
  unfold cv; rw [e]
  generalize A.slots[i] = v at f
  cases v <;> simp [fits] at f ⊢
/-- the byte that i2b leaves of a char -/
def lo8 (x : Int32) : Int32 := x.toInt8.toInt32
theorem fits_lo8 (y : Int32) : fits .byte (.int (lo8 y)) = true := by
  have h1 := y.toInt8.le_toInt
  have h2 := y.toInt8.toInt_lt
  simp only [lo8, fits, Bool.and_eq_true, decide_eq_true_eq, Int32.le_iff_toInt_le, Int8.toInt_toInt32, show (-128 : Int32).toInt = -128 from by decide, show (127 : Int32).toInt = 127 from by decide]
  omega
/-- A' is A but that each place j of lo .. hi - 1 holds f j -/
def Laid (A A' : Cell) (lo hi : Nat) (f : Nat → Value) : Prop := A'.cls = A.cls ∧ A'.vm = A.vm ∧ A'.slots.size = A.slots.size ∧ ∀ i, A'.slots[i]? = if lo ≤ i ∧ i < hi then some (f i) else A.slots[i]?
theorem Laid.zero (A : Cell) (lo : Nat) (f : Nat → Value) : Laid A A lo (lo + 0) f := ⟨rfl, rfl, rfl, fun i => by rw [if_neg (by omega)]⟩
theorem Laid.step {A Ak : Cell} {lo k : Nat} {f : Nat → Value} {v : Value} (h : Laid A Ak lo k f) (hlo : lo ≤ k) (hk : k < Ak.slots.size) (hv : v = f k) : Laid A (Ak.setSlot k v) lo (k + 1) f := by
  refine ⟨h.1, h.2.1, by simpa [Cell.setSlot] using h.2.2.1, fun i => ?_⟩
  by_cases e : k = i
  · subst e; rw [Cell.slots_setSlot_self v hk, if_pos (by omega), hv]
  · rw [Cell.slots_setSlot_ne v e, h.2.2.2 i]
    by_cases q : lo ≤ i ∧ i < k
    · rw [if_pos q, if_pos (by omega)]
    · rw [if_neg q, if_neg (by omega)]
def U16 : String := "java/lang/StringUTF16"
namespace Cmp5
def yN : MethodName := ⟨"java/lang/StringUTF16", "compress", "([CI[BII)I"⟩
abbrev yB : ByteArray := jdk_52_method_21_code
theorem d0 : decode yB 0 = .ok (.iconst 0, 1) := by decide +kernel
theorem d1 : decode yB 1 = .ok (.istore 5, 2) := by decide +kernel
theorem d3 : decode yB 3 = .ok (.iload 5, 2) := by decide +kernel
theorem d5 : decode yB 5 = .ok (.iload 4, 2) := by decide +kernel
theorem d7 : decode yB 7 = .ok (.if_icmp (.ge) 37, 3) := by decide +kernel
theorem d10 : decode yB 10 = .ok (.aload_n 0, 1) := by decide +kernel
theorem d11 : decode yB 11 = .ok (.iload_n 1, 1) := by decide +kernel
theorem d12 : decode yB 12 = .ok (.caload, 1) := by decide +kernel
theorem d13 : decode yB 13 = .ok (.istore 6, 2) := by decide +kernel
theorem d15 : decode yB 15 = .ok (.iload 6, 2) := by decide +kernel
theorem d17 : decode yB 17 = .ok (.sipush 255, 3) := by decide +kernel
theorem d20 : decode yB 20 = .ok (.if_icmp (.le) 6, 3) := by decide +kernel
theorem d26 : decode yB 26 = .ok (.aload_n 2, 1) := by decide +kernel
theorem d27 : decode yB 27 = .ok (.iload_n 3, 1) := by decide +kernel
theorem d28 : decode yB 28 = .ok (.iload 6, 2) := by decide +kernel
theorem d30 : decode yB 30 = .ok (.i2b, 1) := by decide +kernel
theorem d31 : decode yB 31 = .ok (.bastore, 1) := by decide +kernel
theorem d32 : decode yB 32 = .ok (.iinc 1 1, 3) := by decide +kernel
theorem d35 : decode yB 35 = .ok (.iinc 3 1, 3) := by decide +kernel
theorem d38 : decode yB 38 = .ok (.iinc 5 1, 3) := by decide +kernel
theorem d41 : decode yB 41 = .ok (.goto (-38), 3) := by decide +kernel
theorem d44 : decode yB 44 = .ok (.iload 4, 2) := by decide +kernel
theorem d46 : decode yB 46 = .ok (.ireturn, 1) := by decide +kernel
def site : List Cond := []
def tab : Cond := tabOf yN yB 7 (some .int) site
def P (b : Addr) (A : Cell) (d : Addr) (B : Cell) (o q len : Nat) (args : Array Value) (s : State) : Prop := args = #[.ref b, .int (Int32.ofNat o), .ref d, .int (Int32.ofNat q), .int (Int32.ofNat len)] ∧ Ch b A s ∧ Arr .byte d B s ∧ b ≠ d ∧ o + len ≤ A.slots.size ∧ q + len ≤ B.slots.size ∧ ∀ i, i < len → ¬ 255 < cv A (o + i)
def E (b : Addr) (A : Cell) (d : Addr) (B : Cell) (o q len : Nat) (r : Option Value) (s u : State) : Prop := r = some (.int (Int32.ofNat len)) ∧ ∃ B', Put d B' s u ∧ Laid B B' q (q + len) (fun j => Value.int (lo8 (cv A (o + (j - q)))))
/-- no char of the range above 255: len; the places written hold each char's low byte -/
theorem law (l : Launch) (b : Addr) (A : Cell) (d : Addr) (B : Cell) (o q len : Nat) : Law l yN 5 5 0 0 yB 7 (some .int) site (P b A d B o q len) (E b A d B o q len) (copyLocs d q len) 0 0 := by
  refine Law.of_walk (plainFor_of_name (by decide +kernel)) (by decide +kernel) (by decide +kernel) (by decide) (fun _ _ h => by rw [h.1]; rfl) (fun _ U U' hal hh h => ⟨h.1, h.2.1.mv hal hh, h.2.2.1.mv hal hh, h.2.2.2⟩) (fun r U U' V V' h1 hal h2 h => ⟨h.1, h.2.elim fun B' q => ⟨B', q.1.mv h1 h2, q.2⟩⟩) ?_
  intro p e s m args below meth c s₁ X0 hexec hbytes hml hret hlk hnm hown hh0 W hP
  obtain ⟨rfl, hA, hB, hne, l1, l2, hp⟩ := hP
  have c1 : Steps p.tables e below (s₁.setTop (entryFrame m #[.ref b, .int (Int32.ofNat o), .ref d, .int (Int32.ofNat q), .int (Int32.ofNat len)] 7)) (s₁.setTop (mkF m 0 #[.val (.ref b), .val (.int (Int32.ofNat o)), .val (.ref d), .val (.int (Int32.ofNat q)), .val (.int (Int32.ofNat len)), .unset, .unset] [])) := entry rfl
  have hA0 := hA.1.mv X0.warmed.alike hh0
  have hB0 := hB.mv X0.warmed.alike hh0
  have a31 := hA.1.2.2.2
  have c2 : Steps p.tables e below (s₁.setTop (entryFrame m #[.ref b, .int (Int32.ofNat o), .ref d, .int (Int32.ofNat q), .int (Int32.ofNat len)] 7)) (s₁.setTop (mkF m 3 #[.val (.ref b), .val (.int (Int32.ofNat o)), .val (.ref d), .val (.int (Int32.ofNat q)), .val (.int (Int32.ofNat len)), .val (.int 0), .unset] [])) := c1.trans (by
    refine iconstV X0.here hexec rfl 0 (hb hbytes d0) (by decide) ?_
    refine XS.istore X0.here hexec rfl (hb hbytes d1) rfl rfl ?_
    exact Steps.refl _)
  have loop : ∀ (r i : Nat), i + r = len → ∀ (z : Slot), (z = .unset ∨ ∃ w, z = .val w ∧ w.category = 1) → ∀ (Tl : State) (Bk : Cell), Stand p l e { frames := 0, locals := 0, cells := 0, slots := 0 } s m #[.ref b, .int (Int32.ofNat o), .ref d, .int (Int32.ofNat q), .int (Int32.ofNat len)] below meth c Tl ([] ++ copyLocs d q i) 0 0 → Put d Bk s₁ Tl → Laid B Bk q (q + i) (fun j => Value.int (lo8 (cv A (o + (j - q))))) →
      Steps p.tables e below (s₁.setTop (entryFrame m #[.ref b, .int (Int32.ofNat o), .ref d, .int (Int32.ofNat q), .int (Int32.ofNat len)] 7)) (Tl.setTop (mkF m 3 #[.val (.ref b), .val (.int (Int32.ofNat (o + i))), .val (.ref d), .val (.int (Int32.ofNat (q + i))), .val (.int (Int32.ofNat len)), .val (.int (Int32.ofNat i)), z] [])) → ∃ (T' : State) (B' : Cell) (z' : Slot), Stand p l e { frames := 0, locals := 0, cells := 0, slots := 0 } s m #[.ref b, .int (Int32.ofNat o), .ref d, .int (Int32.ofNat q), .int (Int32.ofNat len)] below meth c T' ([] ++ copyLocs d q len) 0 0 ∧ Put d B' s₁ T' ∧ Laid B B' q (q + len) (fun j => Value.int (lo8 (cv A (o + (j - q))))) ∧
      Steps p.tables e below (s₁.setTop (entryFrame m #[.ref b, .int (Int32.ofNat o), .ref d, .int (Int32.ofNat q), .int (Int32.ofNat len)] 7)) (T'.setTop (mkF m 3 #[.val (.ref b), .val (.int (Int32.ofNat (o + len))), .val (.ref d), .val (.int (Int32.ofNat (q + len))), .val (.int (Int32.ofNat len)), .val (.int (Int32.ofNat len)), z'] [])) := by
    intro r
    induction r with
    | zero =>
      intro i hi z hz Tl Bk Xl pl fl cl
      have hil : i = len := by omega
      rw [hil] at Xl fl cl
      exact ⟨Tl, Bk, z, Xl, pl, fl, cl⟩
    | succ r ih =>
      intro i hi z hz Tl Bk Xl pl fl cl
      have all := X0.warmed.alike.symm.trans Xl.warmed.alike
      have hAl := hA0.keep all (pl.other hne hA0.1)
      have hBk := hB0.like all pl.1 fl.1 fl.2.1 fl.2.2.1
      have hlt : q + i < Bk.slots.size := by rw [fl.2.2.1]; omega
      have c3 : Steps p.tables e below (s₁.setTop (entryFrame m #[.ref b, .int (Int32.ofNat o), .ref d, .int (Int32.ofNat q), .int (Int32.ofNat len)] 7)) (Tl.setTop (mkF m 12 #[.val (.ref b), .val (.int (Int32.ofNat (o + i))), .val (.ref d), .val (.int (Int32.ofNat (q + i))), .val (.int (Int32.ofNat len)), .val (.int (Int32.ofNat i)), z] [.int (Int32.ofNat (o + i)), .ref b])) := cl.trans (by
        refine XS.iload Xl.here hexec rfl (hb hbytes d3) rfl ?_
        refine XS.iload Xl.here hexec rfl (hb hbytes d5) rfl ?_
        refine XS.icmpNo Xl.here hexec rfl (hb hbytes d7) rfl (ii_ge_f (lt32 (by omega) (by omega))) ?_
        refine XS.aloadN Xl.here hexec rfl (hb hbytes d10) rfl rfl ?_
        refine XS.iloadN Xl.here hexec rfl (hb hbytes d11) rfl ?_
        exact Steps.refl _)
      have c4 : Steps p.tables e below (s₁.setTop (entryFrame m #[.ref b, .int (Int32.ofNat o), .ref d, .int (Int32.ofNat q), .int (Int32.ofNat len)] 7)) (Tl.setTop (mkF m 13 #[.val (.ref b), .val (.int (Int32.ofNat (o + i))), .val (.ref d), .val (.int (Int32.ofNat (q + i))), .val (.int (Int32.ofNat len)), .val (.int (Int32.ofNat i)), z] [.int (cv A (o + i))])) := c3.trans (by
        refine Xl.aget hexec hAl rfl (hA.get (i := o + i) (by omega)) rfl rfl (hb hbytes d12) ?_
        exact Steps.refl _)
      have c5 : Steps p.tables e below (s₁.setTop (entryFrame m #[.ref b, .int (Int32.ofNat o), .ref d, .int (Int32.ofNat q), .int (Int32.ofNat len)] 7)) (Tl.setTop (mkF m 15 #[.val (.ref b), .val (.int (Int32.ofNat (o + i))), .val (.ref d), .val (.int (Int32.ofNat (q + i))), .val (.int (Int32.ofNat len)), .val (.int (Int32.ofNat i)), .val (.int (cv A (o + i)))] [])) := c4.trans (by
        refine XS.istoreS Xl.here hexec rfl (hb hbytes d13) rfl rfl hz ?_
        exact Steps.refl _)
      have c6 : Steps p.tables e below (s₁.setTop (entryFrame m #[.ref b, .int (Int32.ofNat o), .ref d, .int (Int32.ofNat q), .int (Int32.ofNat len)] 7)) (Tl.setTop (mkF m 31 #[.val (.ref b), .val (.int (Int32.ofNat (o + i))), .val (.ref d), .val (.int (Int32.ofNat (q + i))), .val (.int (Int32.ofNat len)), .val (.int (Int32.ofNat i)), .val (.int (cv A (o + i)))] [.int (lo8 (cv A (o + i))), .int (Int32.ofNat (q + i)), .ref d])) := c5.trans (by
        refine XS.iload Xl.here hexec rfl (hb hbytes d15) rfl ?_
        refine sipushV Xl.here hexec rfl 255 (hb hbytes d17) (by decide) ?_
        refine XS.icmpYes Xl.here hexec rfl (pc0 := 20) rfl (hb hbytes d20) rfl (ii_le_t (hp i (by omega))) (by decide) rfl ?_
        refine XS.aloadN Xl.here hexec rfl (hb hbytes d26) rfl rfl ?_
        refine XS.iloadN Xl.here hexec rfl (hb hbytes d27) rfl ?_
        refine XS.iload Xl.here hexec rfl (hb hbytes d28) rfl ?_
        refine i2b Xl.here hexec rfl (hb hbytes d30) rfl ?_
        exact Steps.refl _)
      obtain ⟨T7, X7, p7, st7⟩ := Xl.aput hexec hBk rfl hlt rfl (fits_lo8 (cv A (o + i))) (g := (mkF m 31 #[.val (.ref b), .val (.int (Int32.ofNat (o + i))), .val (.ref d), .val (.int (Int32.ofNat (q + i))), .val (.int (Int32.ofNat len)), .val (.int (Int32.ofNat i)), .val (.int (cv A (o + i)))] [.int (lo8 (cv A (o + i))), .int (Int32.ofNat (q + i)), .ref d])) rfl (rest := []) rfl (hb hbytes d31)
      have c8 : Steps p.tables e below (s₁.setTop (entryFrame m #[.ref b, .int (Int32.ofNat o), .ref d, .int (Int32.ofNat q), .int (Int32.ofNat len)] 7)) (T7.setTop (mkF m 32 #[.val (.ref b), .val (.int (Int32.ofNat (o + i))), .val (.ref d), .val (.int (Int32.ofNat (q + i))), .val (.int (Int32.ofNat len)), .val (.int (Int32.ofNat i)), .val (.int (cv A (o + i)))] [])) := c6.trans (st7 _ (Steps.refl _))
      have c9 : Steps p.tables e below (s₁.setTop (entryFrame m #[.ref b, .int (Int32.ofNat o), .ref d, .int (Int32.ofNat q), .int (Int32.ofNat len)] 7)) (T7.setTop (mkF m 3 #[.val (.ref b), .val (.int (Int32.ofNat (o + i) + 1)), .val (.ref d), .val (.int (Int32.ofNat (q + i) + 1)), .val (.int (Int32.ofNat len)), .val (.int (Int32.ofNat i + 1)), .val (.int (cv A (o + i)))] [])) := c8.trans (by
        refine iincV X7.here hexec rfl 1 (hb hbytes d32) (by decide) rfl rfl ?_
        refine iincV X7.here hexec rfl 1 (hb hbytes d35) (by decide) rfl rfl ?_
        refine iincV X7.here hexec rfl 1 (hb hbytes d38) (by decide) rfl rfl ?_
        refine XS.goto X7.here hexec rfl (pc0 := 41) rfl (hb hbytes d41) (by decide) rfl ?_
        exact Steps.refl _)
      have c10 : Steps p.tables e below (s₁.setTop (entryFrame m #[.ref b, .int (Int32.ofNat o), .ref d, .int (Int32.ofNat q), .int (Int32.ofNat len)] 7)) (T7.setTop (mkF m 3 #[.val (.ref b), .val (.int (Int32.ofNat (o + (i + 1)))), .val (.ref d), .val (.int (Int32.ofNat (q + (i + 1)))), .val (.int (Int32.ofNat len)), .val (.int (Int32.ofNat (i + 1))), .val (.int (cv A (o + i)))] [])) := by
        have := c9
        rw [succ32, succ32, succ32] at this
        exact this
      exact ih (i + 1) (by omega) _ (Or.inr ⟨_, rfl, rfl⟩) T7 _ (by rw [copyLocs_step, ← List.append_assoc]; exact X7) (pl.trans p7) (fl.step (by omega) hlt (by simp)) c10
  obtain ⟨T9, B9, z9, X9, p9, f9, g9⟩ := loop len 0 (by omega) .unset (Or.inl rfl) s₁ B (by simpa [copyLocs] using X0) ⟨hB0.1, fun _ _ => rfl, rfl⟩ (Laid.zero _ _ _) c2
  have c11 : Steps p.tables e below (s₁.setTop (entryFrame m #[.ref b, .int (Int32.ofNat o), .ref d, .int (Int32.ofNat q), .int (Int32.ofNat len)] 7)) (T9.setTop (mkF m 46 #[.val (.ref b), .val (.int (Int32.ofNat (o + len))), .val (.ref d), .val (.int (Int32.ofNat (q + len))), .val (.int (Int32.ofNat len)), .val (.int (Int32.ofNat len)), z9] [.int (Int32.ofNat len)])) := g9.trans (by
    refine XS.iload X9.here hexec rfl (hb hbytes d3) rfl ?_
    refine XS.iload X9.here hexec rfl (hb hbytes d5) rfl ?_
    refine XS.icmpYes X9.here hexec rfl (pc0 := 7) rfl (hb hbytes d7) rfl (ii_ge_t (nlt32 (by omega) (Nat.le_refl _))) (by decide) rfl ?_
    refine XS.iload X9.here hexec rfl (hb hbytes d44) rfl ?_
    exact Steps.refl _)
  exact ⟨T9, some (.int (Int32.ofNat len)), _, _, _, X9, by simp, rfl, rfl, (fun h => by cases h), ⟨rfl, B9, p9.from hh0, f9⟩, fun fs hl => c11.trans (X9.ireturnOut hexec hret rfl (Or.inl rfl) (hb hbytes d46) hl)⟩
end Cmp5
namespace Cmp3
def yN : MethodName := ⟨"java/lang/StringUTF16", "compress", "([CII)[B"⟩
abbrev yB : ByteArray := jdk_52_method_16_code
theorem d0 : decode yB 0 = .ok (.iload_n 2, 1) := by decide +kernel
theorem d1 : decode yB 1 = .ok (.newarray .byte, 2) := by decide +kernel
theorem d3 : decode yB 3 = .ok (.astore_n 3, 1) := by decide +kernel
theorem d4 : decode yB 4 = .ok (.aload_n 0, 1) := by decide +kernel
theorem d5 : decode yB 5 = .ok (.iload_n 1, 1) := by decide +kernel
theorem d6 : decode yB 6 = .ok (.aload_n 3, 1) := by decide +kernel
theorem d7 : decode yB 7 = .ok (.iconst 0, 1) := by decide +kernel
theorem d8 : decode yB 8 = .ok (.iload_n 2, 1) := by decide +kernel
theorem d9 : decode yB 9 = .ok (.invokestatic 115, 3) := by decide +kernel
theorem d12 : decode yB 12 = .ok (.istore 4, 2) := by decide +kernel
theorem d14 : decode yB 14 = .ok (.iload 4, 2) := by decide +kernel
theorem d16 : decode yB 16 = .ok (.iload_n 2, 1) := by decide +kernel
theorem d17 : decode yB 17 = .ok (.if_icmp (.eq) 40, 3) := by decide +kernel
theorem d57 : decode yB 57 = .ok (.aload_n 3, 1) := by decide +kernel
theorem d58 : decode yB 58 = .ok (.areturn, 1) := by decide +kernel
def site : List Cond := [.arrayClass .byte, Cmp5.tab] ++ staticW U16 115 Cmp5.yN
def tab : Cond := tabOf yN yB 6 (some (.array .byte)) site
def P (b : Addr) (A : Cell) (o len : Nat) (args : Array Value) (s : State) : Prop := args = #[.ref b, .int (Int32.ofNat o), .int (Int32.ofNat len)] ∧ Ch b A s ∧ o + len ≤ A.slots.size ∧ len ≤ 536870912 ∧ ∀ i, i < len → ¬ 255 < cv A (o + i)
def E (b : Addr) (A : Cell) (o len : Nat) (r : Option Value) (s u : State) : Prop := NewArr .byte "[B" len (fun j => .int (lo8 (cv A (o + j)))) r s u ∧ u.heap.size = s.heap.size + 1
/-- no char of the range above 255: a new byte[] of their low bytes -/
theorem law (l : Launch) (b : Addr) (A : Cell) (o len : Nat) : Law l yN 3 3 1 18 yB 6 (some (.array .byte)) site (P b A o len) (E b A o len) [] 1 len := by
  refine Law.of_walk (plainFor_of_name (by decide +kernel)) (by decide +kernel) (by decide +kernel) (by decide) (fun _ _ h => by rw [h.1]; rfl) (fun _ U U' hal hh h => ⟨h.1, h.2.1.mv hal hh, h.2.2⟩) (fun r U U' V V' h1 hal h2 h => ⟨NewArr.mv r U U' V V' h1 hal h2 h.1, by rw [h1, h2]; exact h.2⟩) ?_
  intro p e s m args below meth c s₁ X0 hexec hbytes hml hret hlk hnm hown hh0 W hP
  obtain ⟨rfl, hA, l1, l2, hp⟩ := hP
  have a31 := hA.1.2.2.2
  have c1 : Steps p.tables e below (s₁.setTop (entryFrame m #[.ref b, .int (Int32.ofNat o), .int (Int32.ofNat len)] 6)) (s₁.setTop (mkF m 0 #[.val (.ref b), .val (.int (Int32.ofNat o)), .val (.int (Int32.ofNat len)), .unset, .unset, .unset] [])) := entry rfl
  have c2 : Steps p.tables e below (s₁.setTop (entryFrame m #[.ref b, .int (Int32.ofNat o), .int (Int32.ofNat len)] 6)) (s₁.setTop (mkF m 1 #[.val (.ref b), .val (.int (Int32.ofNat o)), .val (.int (Int32.ofNat len)), .unset, .unset, .unset] [.int (Int32.ofNat len)])) := c1.trans (by
    refine XS.iloadN X0.here hexec rfl (hb hbytes d0) rfl ?_
    exact Steps.refl _)
  obtain ⟨T3, B3, X3, ba3, bs3, bv3, bh3, bf3, st3⟩ := X0.anew hexec (atype := .byte) (wk W (.arrayClass .byte)) rfl (by show len * 1 ≤ _; omega) (by omega) (g := (mkF m 1 #[.val (.ref b), .val (.int (Int32.ofNat o)), .val (.int (Int32.ofNat len)), .unset, .unset, .unset] [.int (Int32.ofNat len)])) rfl (hb hbytes d1) (rest := []) rfl (Nat.le_refl _) (by show 0 + len ≤ len; omega)
  rw [hh0] at ba3 st3
  have kp3 : XT.Kept s T3 := (XT.Kept.of_eq hh0).push bh3
  have hA3 := hA.keep X3.warmed.alike (kp3 _ _ hA.1.1)
  have hne : b ≠ s.heap.size := hA.1.ne
  have c4 : Steps p.tables e below (s₁.setTop (entryFrame m #[.ref b, .int (Int32.ofNat o), .int (Int32.ofNat len)] 6)) (T3.setTop (mkF m 3 #[.val (.ref b), .val (.int (Int32.ofNat o)), .val (.int (Int32.ofNat len)), .unset, .unset, .unset] [.ref s.heap.size])) := c2.trans (st3 _ (Steps.refl _))
  have c5 : Steps p.tables e below (s₁.setTop (entryFrame m #[.ref b, .int (Int32.ofNat o), .int (Int32.ofNat len)] 6)) (T3.setTop (mkF m 9 #[.val (.ref b), .val (.int (Int32.ofNat o)), .val (.int (Int32.ofNat len)), .val (.ref s.heap.size), .unset, .unset] [.int (Int32.ofNat len), .int 0, .ref s.heap.size, .int (Int32.ofNat o), .ref b])) := c4.trans (by
    refine XS.astoreN X3.here hexec rfl (hb hbytes d3) rfl rfl rfl ?_
    refine XS.aloadN X3.here hexec rfl (hb hbytes d4) rfl rfl ?_
    refine XS.iloadN X3.here hexec rfl (hb hbytes d5) rfl ?_
    refine XS.aloadN X3.here hexec rfl (hb hbytes d6) rfl rfl ?_
    refine iconstV X3.here hexec rfl 0 (hb hbytes d7) (by decide) ?_
    refine XS.iloadN X3.here hexec rfl (hb hbytes d8) rfl ?_
    exact Steps.refl _)
  obtain ⟨v6, T6, X6, E6, g6⟩ := X3.callS hexec (Cmp5.law l b A s.heap.size B3 o 0 len) hown (wks W (staticW U16 115 Cmp5.yN)) (wk W Cmp5.tab) (W := 0) (Nat.le_of_ble_eq_true rfl) (Nat.le_of_ble_eq_true rfl) (Nat.le_refl _) (by show 0 + len + 0 ≤ len; omega) (g := (mkF m 9 #[.val (.ref b), .val (.int (Int32.ofNat o)), .val (.int (Int32.ofNat len)), .val (.ref s.heap.size), .unset, .unset] [.int (Int32.ofNat len), .int (Int32.ofNat 0), .ref s.heap.size, .int (Int32.ofNat o), .ref b])) rfl (by rw [hml]; rfl) c5 (argsL := [.ref b, .int (Int32.ofNat o), .ref s.heap.size, .int (Int32.ofNat 0), .int (Int32.ofNat len)]) (rest := []) rfl rfl (by show 2 * 0 + 0 ≤ _; decide) (hb hbytes d9) (⟨rfl, hA3, ba3, hne, l1, by rw [bs3]; simp, hp⟩)
  obtain ⟨rfl, B6, p6, f6⟩ := E6
  have c7 : Steps p.tables e below (s₁.setTop (entryFrame m #[.ref b, .int (Int32.ofNat o), .int (Int32.ofNat len)] 6)) (T6.setTop (mkF m 12 #[.val (.ref b), .val (.int (Int32.ofNat o)), .val (.int (Int32.ofNat len)), .val (.ref s.heap.size), .unset, .unset] [.int (Int32.ofNat len)])) := g6
  have c8 : Steps p.tables e below (s₁.setTop (entryFrame m #[.ref b, .int (Int32.ofNat o), .int (Int32.ofNat len)] 6)) (T6.setTop (mkF m 58 #[.val (.ref b), .val (.int (Int32.ofNat o)), .val (.int (Int32.ofNat len)), .val (.ref s.heap.size), .val (.int (Int32.ofNat len)), .unset] [.ref s.heap.size])) := c7.trans (by
    refine XS.istore X6.here hexec rfl (hb hbytes d12) rfl rfl ?_
    refine XS.iload X6.here hexec rfl (hb hbytes d14) rfl ?_
    refine XS.iloadN X6.here hexec rfl (hb hbytes d16) rfl ?_
    refine XS.icmpYes X6.here hexec rfl (pc0 := 17) rfl (hb hbytes d17) rfl (ii_eq_t rfl) (by decide) rfl ?_
    refine XS.aloadN X6.here hexec rfl (hb hbytes d57) rfl rfl ?_
    exact Steps.refl _)
  have X8 := X6.wide (L' := []) (cells' := 1) (slots' := len) (fun x hx hlt => by
    simp only [List.nil_append, copyLocs, List.mem_map, List.mem_range] at hx
    obtain ⟨i, -, rfl⟩ := hx
    exact absurd hlt (Nat.lt_irrefl _)) (Nat.le_refl _) (by omega)
  exact ⟨T6, some (.ref s.heap.size), _, _, _, X8, rfl, rfl, rfl, (fun h => by cases h), ⟨⟨rfl, B6, ba3.like (X3.warmed.alike.symm.trans X6.warmed.alike) p6.1 f6.1 f6.2.1 f6.2.2.1, f6.2.1.trans bv3, by rw [X6.warmed.alike.findClass, f6.1]; exact bf3, by rw [f6.2.2.1, bs3]; simp, fun j hj => by rw [f6.2.2.2 j, if_pos (by omega)]; rfl, kp3.put p6 (Nat.le_refl _)⟩, by rw [p6.2.2, bh3, hh0]; simp⟩, fun fs hl => c8.trans (X8.areturnOut hexec rfl hret rfl (hb hbytes d58) hl)⟩
end Cmp3
namespace CodL
def yN : MethodName := ⟨"java/lang/StringUTF16", "coderFromArrayLen", "([BI)B"⟩
abbrev yB : ByteArray := jdk_52_method_15_code
theorem d0 : decode yB 0 = .ok (.iload_n 1, 1) := by decide +kernel
theorem d1 : decode yB 1 = .ok (.aload_n 0, 1) := by decide +kernel
theorem d2 : decode yB 2 = .ok (.arraylength, 1) := by decide +kernel
theorem d3 : decode yB 3 = .ok (.isub, 1) := by decide +kernel
theorem d4 : decode yB 4 = .ok (.bipush 31, 2) := by decide +kernel
theorem d6 : decode yB 6 = .ok (.iushr, 1) := by decide +kernel
theorem d7 : decode yB 7 = .ok (.i2b, 1) := by decide +kernel
theorem d8 : decode yB 8 = .ok (.ireturn, 1) := by decide +kernel
def site : List Cond := []
def tab : Cond := tabOf yN yB 2 (some .byte) site
def P (d : Addr) (B : Cell) (args : Array Value) (s : State) : Prop := args = #[.ref d, .int (Int32.ofNat B.slots.size)] ∧ Arr .byte d B s
def E (r : Option Value) (s u : State) : Prop := XT.PureE (some (.int 0)) r s u
/-- an array as long as the number of chars: LATIN1 -/
theorem law (l : Launch) (d : Addr) (B : Cell) : Law l yN 2 2 0 0 yB 2 (some .byte) site (P d B) E [] 0 0 := by
  refine Law.of_walk (plainFor_of_name (by decide +kernel)) (by decide +kernel) (by decide +kernel) (by decide) (fun _ _ h => by rw [h.1]; rfl) (fun _ U U' hal hh h => ⟨h.1, h.2.mv hal hh⟩) (fun r U U' V V' h1 hal h2 h => XT.PureE.mv r U U' V V' h1 hal h2 h) ?_
  intro p e s m args below meth c s₁ X0 hexec hbytes hml hret hlk hnm hown hh0 W hP
  obtain ⟨rfl, hB⟩ := hP
  have hB0 := hB.mv X0.warmed.alike hh0
  have c1 : Steps p.tables e below (s₁.setTop (entryFrame m #[.ref d, .int (Int32.ofNat B.slots.size)] 2)) (s₁.setTop (mkF m 0 #[.val (.ref d), .val (.int (Int32.ofNat B.slots.size))] [])) := entry rfl
  have c2 : Steps p.tables e below (s₁.setTop (entryFrame m #[.ref d, .int (Int32.ofNat B.slots.size)] 2)) (s₁.setTop (mkF m 2 #[.val (.ref d), .val (.int (Int32.ofNat B.slots.size))] [.ref d, .int (Int32.ofNat B.slots.size)])) := c1.trans (by
    refine XS.iloadN X0.here hexec rfl (hb hbytes d0) rfl ?_
    refine XS.aloadN X0.here hexec rfl (hb hbytes d1) rfl rfl ?_
    exact Steps.refl _)
  have c3 : Steps p.tables e below (s₁.setTop (entryFrame m #[.ref d, .int (Int32.ofNat B.slots.size)] 2)) (s₁.setTop (mkF m 8 #[.val (.ref d), .val (.int (Int32.ofNat B.slots.size))] [.int (lo8 (ushr (Int32.ofNat B.slots.size - Int32.ofNat B.slots.size) 31))])) := c2.trans (by
    refine X0.alen hexec hB0 rfl rfl (hb hbytes d2) ?_
    refine XS.isub X0.here hexec rfl (hb hbytes d3) rfl ?_
    refine bipushV X0.here hexec rfl 31 (hb hbytes d4) (by decide) ?_
    refine iushr X0.here hexec rfl (hb hbytes d6) rfl ?_
    refine i2b X0.here hexec rfl (hb hbytes d7) rfl ?_
    exact Steps.refl _)
  have e0 : lo8 (ushr (Int32.ofNat B.slots.size - Int32.ofNat B.slots.size) 31) = 0 := by rw [Int32.sub_self]; decide
  rw [e0] at c3
  exact ⟨s₁, some (.int 0), _, _, _, X0, rfl, rfl, rfl, (fun h => by cases h), ⟨rfl, hh0⟩, fun fs hl => c3.trans (X0.ireturnOut hexec hret rfl (Or.inr (Or.inr (Or.inl rfl))) (hb hbytes d8) hl)⟩
end CodL
/-- the String at a is Latin-1 over a new byte[] (the heap's one new cell): the low bytes of the len chars of A from o on; every cell but a is kept -/
def Got (a : Addr) (D : Cell) (fV fC : Field) (A : Cell) (o len : Nat) (r : Option Value) (s u : State) : Prop := r = none ∧ ∃ D' V : Cell, Blank "java/lang/String" a D' u ∧ Same D D' [fV.slot, fC.slot] ∧ D'.slots[fV.slot]? = some (.ref s.heap.size) ∧ D'.slots[fC.slot]? = some (.int 0) ∧ Arr .byte s.heap.size V u ∧ V.vm = .none ∧ u.vm.findClass "[B" = some V.cls ∧ V.slots.size = len ∧ (∀ j, j < len → V.slots[j]? = some (.int (lo8 (cv A (o + j))))) ∧ (∀ (y : Addr) (c : Cell), y ≠ a → s.heap[y]? = some c → u.heap[y]? = some c) ∧ u.heap.size = s.heap.size + 1
theorem Got.mv {a : Addr} {D A : Cell} {fV fC : Field} {o len : Nat} : ∀ r (U U' V V' : State), U'.heap = U.heap → V.vm.Alike V'.vm → V'.heap = V.heap → Got a D fV fC A o len r U V → Got a D fV fC A o len r U' V' :=
  fun r U U' V V' h1 hal h2 ⟨e0, D', X, a1, a2, a3, a4, a5, a6, a7, a8, a9, a10, a11⟩ => ⟨e0, D', X, a1.mv hal h2, a2, by rw [h1]; exact a3, a4, by rw [h1]; exact a5.mv hal h2, a6, by rw [hal.findClass]; exact a7, a8, a9, by rw [h1, h2]; exact a10, by rw [h1, h2]; exact a11⟩
namespace New4
def yN : MethodName := ⟨"java/lang/String", "<init>", "([CIILjava/lang/Void;)V"⟩
abbrev yB : ByteArray := jdk_42_method_149_code
theorem d0 : decode yB 0 = .ok (.aload_n 0, 1) := by decide +kernel
theorem d1 : decode yB 1 = .ok (.invokespecial 1, 3) := by decide +kernel
theorem d4 : decode yB 4 = .ok (.iload_n 3, 1) := by decide +kernel
theorem d5 : decode yB 5 = .ok (.ifCond (.ne) 22, 3) := by decide +kernel
theorem d27 : decode yB 27 = .ok (.getstatic 38, 3) := by decide +kernel
theorem d30 : decode yB 30 = .ok (.ifCond (.eq) 28, 3) := by decide +kernel
theorem d33 : decode yB 33 = .ok (.aload_n 1, 1) := by decide +kernel
theorem d34 : decode yB 34 = .ok (.iload_n 2, 1) := by decide +kernel
theorem d35 : decode yB 35 = .ok (.iload_n 3, 1) := by decide +kernel
theorem d36 : decode yB 36 = .ok (.invokestatic 177, 3) := by decide +kernel
theorem d39 : decode yB 39 = .ok (.astore 5, 2) := by decide +kernel
theorem d41 : decode yB 41 = .ok (.aload_n 0, 1) := by decide +kernel
theorem d42 : decode yB 42 = .ok (.aload 5, 2) := by decide +kernel
theorem d44 : decode yB 44 = .ok (.iload_n 3, 1) := by decide +kernel
theorem d45 : decode yB 45 = .ok (.invokestatic 47, 3) := by decide +kernel
theorem d48 : decode yB 48 = .ok (.putfield 15, 3) := by decide +kernel
theorem d51 : decode yB 51 = .ok (.aload_n 0, 1) := by decide +kernel
theorem d52 : decode yB 52 = .ok (.aload 5, 2) := by decide +kernel
theorem d54 : decode yB 54 = .ok (.putfield 9, 3) := by decide +kernel
theorem d57 : decode yB 57 = .ok (.return_, 1) := by decide +kernel
def site : List Cond := [.fieldLink "java/lang/String" 38 "java/lang/String" "COMPACT_STRINGS" "Z", Cmp3.tab, CodL.tab, .laysFinal "java/lang/String" "java/lang/String" "value" "[B", .fieldLink "java/lang/String" 9 "java/lang/String" "value" "[B", .laysFinal "java/lang/String" "java/lang/String" "coder" "B", .fieldLink "java/lang/String" 15 "java/lang/String" "coder" "B"] ++ objW "java/lang/String" 1 ++ staticW "java/lang/String" 177 Cmp3.yN ++ staticW "java/lang/String" 47 CodL.yN
def tab : Cond := tabOf yN yB 6 none site
def P (a : Addr) (D : Cell) (fV fC : Field) (b : Addr) (A : Cell) (z : Int32) (o len : Nat) (args : Array Value) (s : State) : Prop := args = #[.ref a, .ref b, .int (Int32.ofNat o), .int (Int32.ofNat len), .null] ∧ Blank "java/lang/String" a D s ∧ Found "java/lang/String" "value" "[B" fV s ∧ Found "java/lang/String" "coder" "B" fC s ∧ Ch b A s ∧ StaticIs s "java/lang/String" "COMPACT_STRINGS" "Z" (.int z) ∧ ¬ z = 0 ∧ 0 < len ∧ o + len ≤ A.slots.size ∧ len ≤ 536870912 ∧ ∀ i, i < len → ¬ 255 < cv A (o + i)
def E (a : Addr) (D : Cell) (fV fC : Field) (A : Cell) (o len : Nat) (r : Option Value) (s u : State) : Prop := Got a D fV fC A o len r s u
/-- len > 0, no char of the range above 255: a Latin-1 String of their low bytes -/
theorem law (l : Launch) (a : Addr) (D : Cell) (fV fC : Field) (b : Addr) (A : Cell) (z : Int32) (o len : Nat) : Law l yN 5 4 2 35 yB 6 none site (P a D fV fC b A z o len) (E a D fV fC A o len) [⟨a, fC.slot⟩, ⟨a, fV.slot⟩] 1 len := by
  refine Law.of_walk (plainFor_of_name (by decide +kernel)) (by decide +kernel) (by decide +kernel) (by decide) (fun _ _ h => by rw [h.1]; rfl) (fun _ U U' hal hh h => ⟨h.1, h.2.1.mv hal hh, h.2.2.1.al hal, h.2.2.2.1.al hal, h.2.2.2.2.1.mv hal hh, h.2.2.2.2.2.1.there hal hh, h.2.2.2.2.2.2⟩) (fun r U U' V V' h1 hal h2 h => Got.mv r U U' V V' h1 hal h2 h) ?_
  intro p e s m args below meth c s₁ X0 hexec hbytes hml hret hlk hnm hown hh0 W hP
  obtain ⟨rfl, hB, f1, f2, hA, s1, hz, l0, l1, l2, hp⟩ := hP
  have a31 := hA.1.2.2.2
  have c1 : Steps p.tables e below (s₁.setTop (entryFrame m #[.ref a, .ref b, .int (Int32.ofNat o), .int (Int32.ofNat len), .null] 6)) (s₁.setTop (mkF m 0 #[.val (.ref a), .val (.ref b), .val (.int (Int32.ofNat o)), .val (.int (Int32.ofNat len)), .val .null, .unset] [])) := entry rfl
  have c2 : Steps p.tables e below (s₁.setTop (entryFrame m #[.ref a, .ref b, .int (Int32.ofNat o), .int (Int32.ofNat len), .null] 6)) (s₁.setTop (mkF m 1 #[.val (.ref a), .val (.ref b), .val (.int (Int32.ofNat o)), .val (.int (Int32.ofNat len)), .val .null, .unset] [.ref a])) := c1.trans (by
    refine XS.aloadN X0.here hexec rfl (hb hbytes d0) rfl rfl ?_
    exact Steps.refl _)
  obtain ⟨T3, X3, q3, st3⟩ := X0.oinit hexec hown (wks W (objW "java/lang/String" 1)) (g := (mkF m 1 #[.val (.ref a), .val (.ref b), .val (.int (Int32.ofNat o)), .val (.int (Int32.ofNat len)), .val .null, .unset] [.ref a])) rfl (by rw [hml]; rfl) (rest := []) rfl (hb hbytes d1) (W := 0) (by show 2 * 0 + 0 ≤ _; decide) (Nat.le_of_ble_eq_true rfl) (Nat.le_of_ble_eq_true rfl)
  have hh3 := q3.trans hh0
  have c4 : Steps p.tables e below (s₁.setTop (entryFrame m #[.ref a, .ref b, .int (Int32.ofNat o), .int (Int32.ofNat len), .null] 6)) (T3.setTop (mkF m 27 #[.val (.ref a), .val (.ref b), .val (.int (Int32.ofNat o)), .val (.int (Int32.ofNat len)), .val .null, .unset] [])) := (c2.trans (st3 _ (Steps.refl _))).trans (by
    refine XS.iloadN X3.here hexec rfl (hb hbytes d4) rfl ?_
    refine XS.ifYes X3.here hexec rfl (pc0 := 5) rfl (hb hbytes d5) rfl (i0_ne_t (nz32 (by omega) l0)) (by decide) rfl ?_
    exact Steps.refl _)
  obtain ⟨T5, X5, q5, st5⟩ := X3.sget hexec hown (wk W (.fieldLink "java/lang/String" 38 "java/lang/String" "COMPACT_STRINGS" "Z")) s1 (fun _ _ h => by rw [hh3]; exact h) (g := (mkF m 27 #[.val (.ref a), .val (.ref b), .val (.int (Int32.ofNat o)), .val (.int (Int32.ofNat len)), .val .null, .unset] [])) rfl (hb hbytes d27)
  have hh5 := q5.trans hh3
  have c6 : Steps p.tables e below (s₁.setTop (entryFrame m #[.ref a, .ref b, .int (Int32.ofNat o), .int (Int32.ofNat len), .null] 6)) (T5.setTop (mkF m 30 #[.val (.ref a), .val (.ref b), .val (.int (Int32.ofNat o)), .val (.int (Int32.ofNat len)), .val .null, .unset] [.int z])) := c4.trans (st5 _ (Steps.refl _))
  have c7 : Steps p.tables e below (s₁.setTop (entryFrame m #[.ref a, .ref b, .int (Int32.ofNat o), .int (Int32.ofNat len), .null] 6)) (T5.setTop (mkF m 36 #[.val (.ref a), .val (.ref b), .val (.int (Int32.ofNat o)), .val (.int (Int32.ofNat len)), .val .null, .unset] [.int (Int32.ofNat len), .int (Int32.ofNat o), .ref b])) := c6.trans (by
    refine XS.ifNo X5.here hexec rfl (hb hbytes d30) rfl (i0_eq_f hz) ?_
    refine XS.aloadN X5.here hexec rfl (hb hbytes d33) rfl rfl ?_
    refine XS.iloadN X5.here hexec rfl (hb hbytes d34) rfl ?_
    refine XS.iloadN X5.here hexec rfl (hb hbytes d35) rfl ?_
    exact Steps.refl _)
  obtain ⟨v8, T8, X8, E8, g8⟩ := X5.callS hexec (Cmp3.law l b A o len) hown (wks W (staticW "java/lang/String" 177 Cmp3.yN)) (wk W Cmp3.tab) (W := 0) (Nat.le_of_ble_eq_true rfl) (Nat.le_of_ble_eq_true rfl) (Nat.le_refl _) (by show 0 + len ≤ len; omega) (g := (mkF m 36 #[.val (.ref a), .val (.ref b), .val (.int (Int32.ofNat o)), .val (.int (Int32.ofNat len)), .val .null, .unset] [.int (Int32.ofNat len), .int (Int32.ofNat o), .ref b])) rfl (by rw [hml]; rfl) c7 (argsL := [.ref b, .int (Int32.ofNat o), .int (Int32.ofNat len)]) (rest := []) rfl rfl (by show 2 * 0 + 0 ≤ _; decide) (hb hbytes d36) (⟨rfl, hA.mv X5.warmed.alike hh5, l1, l2, hp⟩)
  obtain ⟨e8, z8⟩ := E8
  obtain ⟨rfl, N, n1, n2, n3, n4, n5, n6⟩ := NewArr.mv _ T5 s _ _ hh5.symm (Vm.Alike.refl _) rfl e8
  rw [hh5] at z8
  have hB1 := hB.keep X8.warmed.alike (n6 _ _ hB.1)
  have hne : s.heap.size ≠ a := (Nat.ne_of_lt (Array.getElem?_eq_some_iff.mp hB.1).1).symm
  have c9 : Steps p.tables e below (s₁.setTop (entryFrame m #[.ref a, .ref b, .int (Int32.ofNat o), .int (Int32.ofNat len), .null] 6)) (T8.setTop (mkF m 39 #[.val (.ref a), .val (.ref b), .val (.int (Int32.ofNat o)), .val (.int (Int32.ofNat len)), .val .null, .unset] [.ref s.heap.size])) := g8
  have c10 : Steps p.tables e below (s₁.setTop (entryFrame m #[.ref a, .ref b, .int (Int32.ofNat o), .int (Int32.ofNat len), .null] 6)) (T8.setTop (mkF m 45 #[.val (.ref a), .val (.ref b), .val (.int (Int32.ofNat o)), .val (.int (Int32.ofNat len)), .val .null, .val (.ref s.heap.size)] [.int (Int32.ofNat N.slots.size), .ref s.heap.size, .ref a])) := by
    have hc : Steps p.tables e below (s₁.setTop (entryFrame m #[.ref a, .ref b, .int (Int32.ofNat o), .int (Int32.ofNat len), .null] 6)) (T8.setTop (mkF m 45 #[.val (.ref a), .val (.ref b), .val (.int (Int32.ofNat o)), .val (.int (Int32.ofNat len)), .val .null, .val (.ref s.heap.size)] [.int (Int32.ofNat len), .ref s.heap.size, .ref a])) := c9.trans (by
      refine XS.astore X8.here hexec rfl (hb hbytes d39) rfl rfl rfl ?_
      refine XS.aloadN X8.here hexec rfl (hb hbytes d41) rfl rfl ?_
      refine XS.aload X8.here hexec rfl (hb hbytes d42) rfl rfl ?_
      refine XS.iloadN X8.here hexec rfl (hb hbytes d44) rfl ?_
      exact Steps.refl _)
    rw [n4]; exact hc
  obtain ⟨v11, T11, X11, E11, g11⟩ := X8.callS hexec (CodL.law l s.heap.size N) hown (wks W (staticW "java/lang/String" 47 CodL.yN)) (wk W CodL.tab) (W := 1) (Nat.le_of_ble_eq_true rfl) (Nat.le_of_ble_eq_true rfl) (Nat.le_refl _) (by show 0 + len + 0 ≤ len; omega) (g := (mkF m 45 #[.val (.ref a), .val (.ref b), .val (.int (Int32.ofNat o)), .val (.int (Int32.ofNat len)), .val .null, .val (.ref s.heap.size)] [.int (Int32.ofNat N.slots.size), .ref s.heap.size, .ref a])) rfl (by rw [hml]; rfl) c10 (argsL := [.ref s.heap.size, .int (Int32.ofNat N.slots.size)]) (rest := [.ref a]) rfl rfl (by show 2 * 0 + (1 + 0) ≤ _; decide) (hb hbytes d45) (⟨rfl, n1⟩)
  obtain ⟨rfl, q11⟩ := E11
  have hB11 := hB1.mv (X8.warmed.alike.symm.trans X11.warmed.alike) q11
  have c12 : Steps p.tables e below (s₁.setTop (entryFrame m #[.ref a, .ref b, .int (Int32.ofNat o), .int (Int32.ofNat len), .null] 6)) (T11.setTop (mkF m 48 #[.val (.ref a), .val (.ref b), .val (.int (Int32.ofNat o)), .val (.int (Int32.ofNat len)), .val .null, .val (.ref s.heap.size)] [.int 0, .ref a])) := g11
  obtain ⟨T13, X13, p13, bl13, sl13, st13⟩ := X11.finit hexec hown (wk W (.fieldLink "java/lang/String" 15 "java/lang/String" "coder" "B")) (Or.inr ⟨_, (wk W (.laysFinal "java/lang/String" "java/lang/String" "coder" "B"))⟩) (Or.inl ⟨rfl, hnm⟩) f2 (Or.inl rfl) hB11 (t := .byte) (by decide +kernel) rfl (g := (mkF m 48 #[.val (.ref a), .val (.ref b), .val (.int (Int32.ofNat o)), .val (.int (Int32.ofNat len)), .val .null, .val (.ref s.heap.size)] [.int 0, .ref a])) rfl (rest := []) rfl (hb hbytes d48)
  have c14 : Steps p.tables e below (s₁.setTop (entryFrame m #[.ref a, .ref b, .int (Int32.ofNat o), .int (Int32.ofNat len), .null] 6)) (T13.setTop (mkF m 54 #[.val (.ref a), .val (.ref b), .val (.int (Int32.ofNat o)), .val (.int (Int32.ofNat len)), .val .null, .val (.ref s.heap.size)] [.ref s.heap.size, .ref a])) := (c12.trans (st13 _ (Steps.refl _))).trans (by
    refine XS.aloadN X13.here hexec rfl (hb hbytes d51) rfl rfl ?_
    refine XS.aload X13.here hexec rfl (hb hbytes d52) rfl rfl ?_
    exact Steps.refl _)
  obtain ⟨T15, X15, p15, bl15, sl15, st15⟩ := X13.finit hexec hown (wk W (.fieldLink "java/lang/String" 9 "java/lang/String" "value" "[B")) (Or.inr ⟨_, (wk W (.laysFinal "java/lang/String" "java/lang/String" "value" "[B"))⟩) (Or.inl ⟨rfl, hnm⟩) f1 (Or.inl rfl) bl13 (t := (.array .byte)) (by decide +kernel) rfl (g := (mkF m 54 #[.val (.ref a), .val (.ref b), .val (.int (Int32.ofNat o)), .val (.int (Int32.ofNat len)), .val .null, .val (.ref s.heap.size)] [.ref s.heap.size, .ref a])) rfl (rest := []) rfl (hb hbytes d54)
  have c16 : Steps p.tables e below (s₁.setTop (entryFrame m #[.ref a, .ref b, .int (Int32.ofNat o), .int (Int32.ofNat len), .null] 6)) (T15.setTop (mkF m 57 #[.val (.ref a), .val (.ref b), .val (.int (Int32.ofNat o)), .val (.int (Int32.ofNat len)), .val .null, .val (.ref s.heap.size)] [])) := c14.trans (st15 _ (Steps.refl _))
  have ap := apart (Or.inr ⟨_, (wk W (.laysFinal "java/lang/String" "java/lang/String" "value" "[B"))⟩) (Or.inr ⟨_, (wk W (.laysFinal "java/lang/String" "java/lang/String" "coder" "B"))⟩) f1 f2 (t₁ := .array .byte) (t₂ := .byte) (by decide +kernel) (by decide +kernel) (by decide)
  have al := X8.warmed.alike.symm.trans X15.warmed.alike
  have n7 : T11.heap[s.heap.size]? = some N := by rw [q11]; exact n1.1
  exact ⟨T15, none, _, _, _, X15, by simp, rfl, by omega, (fun _ => rfl), ⟨rfl, _, N, bl15, ((Same.refl D _).set _ (by simp)).set _ (by simp), sl15, (Cell.slots_setSlot_ne _ ap).trans sl13, n1.keep al (p15.other hne (p13.other hne n7)), n2, by rw [al.findClass]; exact n3, n4, n5, fun y c h1 h2 => p15.other h1 (p13.other h1 (by rw [q11]; exact n6 y c h2)), by rw [p15.2.2, p13.2.2, q11]; exact z8⟩, fun fs hl => c16.trans (X15.returnOut hexec hret (hb hbytes d57) hl)⟩
end New4
namespace New1
def yN : MethodName := ⟨"java/lang/String", "<init>", "([C)V"⟩
abbrev yB : ByteArray := jdk_42_method_3_code
theorem d0 : decode yB 0 = .ok (.aload_n 0, 1) := by decide +kernel
theorem d1 : decode yB 1 = .ok (.aload_n 1, 1) := by decide +kernel
theorem d2 : decode yB 2 = .ok (.iconst 0, 1) := by decide +kernel
theorem d3 : decode yB 3 = .ok (.aload_n 1, 1) := by decide +kernel
theorem d4 : decode yB 4 = .ok (.arraylength, 1) := by decide +kernel
theorem d5 : decode yB 5 = .ok (.aconst_null, 1) := by decide +kernel
theorem d6 : decode yB 6 = .ok (.invokespecial 27, 3) := by decide +kernel
theorem d9 : decode yB 9 = .ok (.return_, 1) := by decide +kernel
def site : List Cond := [New4.tab] ++ initW "java/lang/String" 27 New4.yN
def tab : Cond := tabOf yN yB 2 none site
def P (a : Addr) (D : Cell) (fV fC : Field) (b : Addr) (A : Cell) (z : Int32) (args : Array Value) (s : State) : Prop := args = #[.ref a, .ref b] ∧ Blank "java/lang/String" a D s ∧ Found "java/lang/String" "value" "[B" fV s ∧ Found "java/lang/String" "coder" "B" fC s ∧ Ch b A s ∧ StaticIs s "java/lang/String" "COMPACT_STRINGS" "Z" (.int z) ∧ ¬ z = 0 ∧ 0 < A.slots.size ∧ A.slots.size ≤ 536870912 ∧ ∀ i, i < A.slots.size → ¬ 255 < cv A i
def E (a : Addr) (D : Cell) (fV fC : Field) (A : Cell) (r : Option Value) (s u : State) : Prop := Got a D fV fC A 0 A.slots.size r s u
/-- new String(chars), not empty, no char above 255: a Latin-1 String of their low bytes -/
theorem law (l : Launch) (a : Addr) (D : Cell) (fV fC : Field) (b : Addr) (A : Cell) (z : Int32) : Law l yN 2 1 3 52 yB 2 none site (P a D fV fC b A z) (E a D fV fC A) [⟨a, fC.slot⟩, ⟨a, fV.slot⟩] 1 A.slots.size := by
  refine Law.of_walk (plainFor_of_name (by decide +kernel)) (by decide +kernel) (by decide +kernel) (by decide) (fun _ _ h => by rw [h.1]; rfl) (fun _ U U' hal hh h => ⟨h.1, h.2.1.mv hal hh, h.2.2.1.al hal, h.2.2.2.1.al hal, h.2.2.2.2.1.mv hal hh, h.2.2.2.2.2.1.there hal hh, h.2.2.2.2.2.2⟩) (fun r U U' V V' h1 hal h2 h => Got.mv r U U' V V' h1 hal h2 h) ?_
  intro p e s m args below meth c s₁ X0 hexec hbytes hml hret hlk hnm hown hh0 W hP
  obtain ⟨rfl, hB, f1, f2, hA, s1, hz, l0, l2, hp⟩ := hP
  have c1 : Steps p.tables e below (s₁.setTop (entryFrame m #[.ref a, .ref b] 2)) (s₁.setTop (mkF m 0 #[.val (.ref a), .val (.ref b)] [])) := entry rfl
  have c2 : Steps p.tables e below (s₁.setTop (entryFrame m #[.ref a, .ref b] 2)) (s₁.setTop (mkF m 6 #[.val (.ref a), .val (.ref b)] [.null, .int (Int32.ofNat A.slots.size), .int 0, .ref b, .ref a])) := c1.trans (by
    refine XS.aloadN X0.here hexec rfl (hb hbytes d0) rfl rfl ?_
    refine XS.aloadN X0.here hexec rfl (hb hbytes d1) rfl rfl ?_
    refine iconstV X0.here hexec rfl 0 (hb hbytes d2) (by decide) ?_
    refine XS.aloadN X0.here hexec rfl (hb hbytes d3) rfl rfl ?_
    refine X0.alen hexec (hA.1.mv X0.warmed.alike hh0) rfl rfl (hb hbytes d4) ?_
    refine XS.aconstNull X0.here hexec rfl (hb hbytes d5) ?_
    exact Steps.refl _)
  obtain ⟨v3, T3, X3, E3, g3⟩ := X0.callN hexec (New4.law l a D fV fC b A z 0 A.slots.size) rfl hown (wks W (initW "java/lang/String" 27 New4.yN)) (W New4.tab (by simp only [site, List.mem_cons, List.mem_append, true_or, or_true])) (W := 0) (Nat.le_of_ble_eq_true rfl) (Nat.le_of_ble_eq_true rfl) (Nat.le_refl _) (by show 0 + A.slots.size ≤ A.slots.size; omega) (g := (mkF m 6 #[.val (.ref a), .val (.ref b)] [.null, .int (Int32.ofNat A.slots.size), .int (Int32.ofNat 0), .ref b, .ref a])) rfl (by rw [hml]; rfl) c2 (argsL := [.ref b, .int (Int32.ofNat 0), .int (Int32.ofNat A.slots.size), .null]) (rest := []) rfl rfl (by show 2 * 0 + 0 ≤ _; decide) (hb hbytes d6) (⟨rfl, hB.mv X0.warmed.alike hh0, f1.al X0.warmed.alike, f2.al X0.warmed.alike, hA.mv X0.warmed.alike hh0, s1.there X0.warmed.alike hh0, hz, l0, by omega, l2, fun i hi => by rw [Nat.zero_add]; exact hp i hi⟩)
  have e0 := Got.mv _ s₁ s _ _ hh0.symm (Vm.Alike.refl _) rfl E3
  obtain rfl := e0.1
  have c4 : Steps p.tables e below (s₁.setTop (entryFrame m #[.ref a, .ref b] 2)) (T3.setTop (mkF m 9 #[.val (.ref a), .val (.ref b)] [])) := g3
  exact ⟨T3, none, _, _, _, X3, by simp, rfl, by omega, (fun _ => rfl), e0, fun fs hl => c4.trans (X3.returnOut hexec hret (hb hbytes d9) hl)⟩
theorem pays {l : Launch} {R : Room} {p : Program} {e : Env} {below : List Frame} {s : State} {sargs : Array Value} {len W : Nat} (a : Addr) (D : Cell) (fV fC : Field) (b : Addr) (A : Cell) (z : Int32) (htab : tab.before sargs s = true) (hfr : 4 ≤ R.frames) (hlo : W + 65 ≤ R.locals) :
    Back l R p e below s sargs yN len W (fun A₁ a₁ => A₁.cells + 1 ≤ R.cells ∧ A₁.slots + A.slots.size ≤ R.slots ∧ P a D fV fC b A z a₁ A₁.U) (fun A₁ _ v₁ B₁ => E a D fV fC A v₁ A₁.U B₁.U ∧ B₁.locs = A₁.locs ++ [⟨a, fC.slot⟩, ⟨a, fV.slot⟩] ∧ B₁.cells = A₁.cells + 1 ∧ B₁.slots = A₁.slots + A.slots.size) :=
  (law l a D fV fC b A z).pays htab hfr (by omega)
end New1
/-- the byte, read back as charAt reads it, is the char -/
theorem lo8_mask {x : Int32} (h0 : ¬ x < 0) (h1 : ¬ 255 < x) : lo8 x &&& 255 = x := by
  have t : ∀ k : Fin 256, lo8 (Int32.ofNat k.val) &&& 255 = Int32.ofNat k.val := by decide +kernel
  rw [Int32.lt_iff_toInt_lt] at h0 h1
  have e0 : (0 : Int32).toInt = 0 := rfl
  have e1 : (255 : Int32).toInt = 255 := rfl
  obtain ⟨k, hk⟩ : ∃ k : Nat, x.toInt = k := ⟨x.toInt.toNat, by omega⟩
  have hx : x = Int32.ofNat k := Int32.toInt_inj.mp (by rw [hk, Int32.toInt_ofNat_small (by omega)])
  rw [hx]
  exact t ⟨k, by omega⟩
end StrChars
namespace StrChars.Road
open Jvm Sem ClassFile Op Lib Jvm.Stand Jvm.Free Jvm.Free.XT
open Jvm.Lib.Cold (StaticIs)
abbrev ST : String := "java/lang/String"
/-- every table word that New1's law asks, flat -/
abbrev words : List Jvm.Cond := [.code New1.yN New1.yB 2 none, .initialized ST, .methodLink ST 27 New4.yN, .instanceMethod New4.yN,
  .code New4.yN New4.yB 6 none, .fieldLink ST 38 ST "COMPACT_STRINGS" "Z", .laysFinal ST ST "value" "[B", .fieldLink ST 9 ST "value" "[B", .laysFinal ST ST "coder" "B", .fieldLink ST 15 ST "coder" "B",
  .methodLink ST 1 Lib.objectInit, .instanceMethod Lib.objectInit, .code Lib.objectInit ⟨#[0xb1]⟩ 1 none, .methodLink ST 177 Cmp3.yN, .static Cmp3.yN, .methodLink ST 47 CodL.yN, .static CodL.yN,
  .code Cmp3.yN Cmp3.yB 6 (some (.array .byte)), .initialized U16, .arrayClass .byte, .methodLink U16 115 Cmp5.yN, .static Cmp5.yN, .code Cmp5.yN Cmp5.yB 7 (some .int), .code CodL.yN CodL.yB 2 (some .byte)]
theorem tab_of {a : Array Value} {s : State} (h : ∀ w ∈ words, w.before a s = true) : New1.tab.before a s = true := by
  have h5 : Cmp5.tab.before a s = true := unparts (wk h (.code Cmp5.yN Cmp5.yB 7 (some .int))) (wks h (.initialized Cmp5.yN.cls :: Cmp5.site))
  have hc : CodL.tab.before a s = true := unparts (wk h (.code CodL.yN CodL.yB 2 (some .byte))) (wks h (.initialized CodL.yN.cls :: CodL.site))
  have q5 : ∀ w ∈ Cmp5.tab :: words, w.before a s = true := fun w hw => (List.mem_cons.mp hw).elim (fun e => e ▸ h5) (h w)
  have h3 : Cmp3.tab.before a s = true := unparts (wk q5 (.code Cmp3.yN Cmp3.yB 6 (some (.array .byte)))) (wks q5 (.initialized Cmp3.yN.cls :: Cmp3.site))
  have q3 : ∀ w ∈ Cmp3.tab :: CodL.tab :: words, w.before a s = true := fun w hw => (List.mem_cons.mp hw).elim (fun e => e ▸ h3) fun hw => (List.mem_cons.mp hw).elim (fun e => e ▸ hc) (h w)
  have h4 : New4.tab.before a s = true := unparts (wk q3 (.code New4.yN New4.yB 6 none)) (wks q3 (.initialized New4.yN.cls :: New4.site))
  have q4 : ∀ w ∈ New4.tab :: words, w.before a s = true := fun w hw => (List.mem_cons.mp hw).elim (fun e => e ▸ h4) (h w)
  exact unparts (wk q4 (.code New1.yN New1.yB 2 none)) (wks q4 (.initialized New1.yN.cls :: New1.site))
/-- the words ride from the start Z to the walk's own state -/
theorem moved {Z s : State} {a0 args : Array Value} (hZ : Z.Warmed39 s.vm) (hw : ∀ d ∈ words, d.before a0 Z = true) : ∀ d ∈ words, d.before args s = true := fun d hd => by
  have q := hw d hd
  have t : ∀ d ∈ words, d = .arrayClass .byte ∨ (d.onTables && d.keepsFace) = true := by decide +kernel
  rcases t d hd with rfl | t
  · exact RoadKit.mvA hZ q
  · exact RoadKit.mv hZ q t
/-- WHAT COMES BACK, over the tables of the start Z: h the heap at the call, h' behind it -/
def Q (Z : State) (x : Addr) (A : Cell) (h : Heap) (v : Option Value) (h' : Heap) (L : List Loc) : Prop := v = none ∧ (∀ y ∈ L, y.base = x) ∧ RoadKit.Keep h h' [x] ∧ h'.size = h.size + 1 ∧ RoadKit.Exa Z h' x ST ∧ RoadKit.Fld Z h' x ST "value" "[B" (.ref h.size) ∧ RoadKit.Fld Z h' x ST "coder" "B" (.int 0) ∧
  (∃ V : Cell, RoadKit.Arr Z h' h.size V .byte ∧ V.vm = .none ∧ Z.vm.findClass "[B" = some V.cls ∧ V.slots.size = A.slots.size ∧ ∀ j, j < A.slots.size → V.slots[j]? = some (.int (lo8 (cv A j)))) ∧
  ∀ (O n d : String) (w : Value), RoadKit.Fld Z h x O n d w → RoadKit.slotOf Z O n d ≠ RoadKit.slotOf Z ST "value" "[B" → RoadKit.slotOf Z O n d ≠ RoadKit.slotOf Z ST "coder" "B" → RoadKit.Fld Z h' x O n d w
/-- **new String(chars) AT A CALL, IN THE ROAD'S FORM**: for specialBack behind newO: x the fresh String, b the char[] with the cell A -/
theorem back {p : Program} {l : Launch} {e : Env} {R : Room} {s : State} {args : Array Value} {below : List Frame} {len W : Nat} {Z : State} {a0 : Array Value} {h : Heap} (hZ : Z.Warmed39 s.vm) (hw : ∀ d ∈ words, d.before a0 Z = true) {kI : Nat} (wi : (Jvm.Cond.instantiable ST kI).before a0 Z = true)
    {x b : Addr} {A : Cell} {z : Int32} {v0 c0 : Value} (E : RoadKit.Exa Z h x ST) (V : RoadKit.Fld Z h x ST "value" "[B" v0) (C : RoadKit.Fld Z h x ST "coder" "B" c0) (K : RoadKit.Arr Z h b A .char) (hty : Typed .char A) (S : RoadKit.Sta Z h ST "COMPACT_STRINGS" "Z" (.int z)) (hz : ¬ z = 0)
    (l0 : 0 < A.slots.size) (l2 : A.slots.size ≤ 536870912) (hp : ∀ i, i < A.slots.size → ¬ 255 < cv A i) (hfr : 4 ≤ R.frames) (hlo : W + 65 ≤ R.locals) :
    Back l R p e below s args New1.yN len W (fun P a => a = #[.ref x, .ref b] ∧ P.U.heap = h ∧ P.cells + 1 ≤ R.cells ∧ P.slots + A.slots.size ≤ R.slots)
      (fun P _ v B => ∃ L, Q Z x A h v B.U.heap L ∧ B.locs = P.locs ++ L ∧ B.cells = P.cells + 1 ∧ B.slots = P.slots + A.slots.size) := by
  intro m meth c P g ig mk a X hg hsize hdg hW hn hp'
  obtain ⟨rfl, rfl, r1, r2⟩ := hp'
  have al : Z.vm.Alike P.U.vm := hZ.alike.trans X.warmed.alike
  obtain ⟨D, cfV, kV, iV, fV, hD, gV, stV, knV, obV, asV, slV⟩ := id V
  obtain ⟨D', cfC, kC, iC, fC, hD', gC, stC, -, -, asC, slC⟩ := id C
  cases hD.symm.trans hD'
  obtain ⟨D2, kD, e1, e2, e3, e4, e5⟩ := id E
  cases hD.symm.trans e1
  obtain ⟨c2, k2, i1, i2, i3, -⟩ := Cond.instantiable_spec wi
  cases e2.symm.trans i1
  cases e3.symm.trans i2
  obtain ⟨kU, u1, u2⟩ := al.2.2 _ _ e3
  have hB : Blank ST x D P.U := ⟨hD, ⟨knV, fun q hq => by rw [hq] at obV; cases obV⟩, by rw [al.findClass]; exact e2, kU, u1, by rw [u2]; exact i3, by rw [u2]; exact e5 i3⟩
  have F1 : Found ST "value" "[B" fV P.U := ⟨SBG.found_only al ⟨cfV, kV, iV, gV⟩, stV⟩
  have F2 : Found ST "coder" "B" fC P.U := ⟨SBG.found_only al ⟨cfC, kC, iC, gC⟩, stC⟩
  have hA : Ch b A P.U := ⟨⟨K.1, State.isArrayOf_alike al K.2.1, K.2.2, by omega⟩, hty⟩
  have hS : StaticIs P.U ST "COMPACT_STRINGS" "Z" (.int z) := by
    obtain ⟨cfS, iS, kS, fS, st, cS, t1, t2, t3, t4, t5, t6, t7⟩ := S
    exact StaticIs.there (s := { Z with heap := P.U.heap }) ⟨cfS, iS, kS, fS, st, cS, t1, t2, t3, t4, t5, (fun q => by rw [q] at t6; cases t6), t7⟩ al rfl
  obtain ⟨v, B, X', ⟨⟨hv, E', V', q1, q2, q3, q4, q5, q6, q7, q8, q9, q10, q11⟩, hl, hc, hs⟩, st⟩ := New1.pays x D fV fC b A z (tab_of (moved hZ hw)) hfr hlo m meth c P g ig mk _ X hg hsize hdg hW hn ⟨r1, r2, rfl, hB, F1, F2, hA, hS, hz, l0, l2, hp⟩
  have al' : Z.vm.Alike B.U.vm := hZ.alike.trans X'.warmed.alike
  have hsz : E'.slots.size = D.slots.size := by
    obtain ⟨-, -, -, kB, w1, w2, w3⟩ := q1
    obtain ⟨kB', y1, y2⟩ := al'.2.2 _ _ e3
    rw [q2.2.1] at w1
    cases w1.symm.trans y1
    rw [w3, e5 i3, y2]
  refine ⟨v, B, X', ⟨_, ⟨hv, ?_, ⟨by omega, fun y cy hy hn' => q10 y cy (by simpa using hn') hy, fun y cy hy => ?_⟩, q11, ⟨E', _, q1.1, by rw [q2.2.1]; exact e2, by rw [q2.2.1]; exact e3, by rw [q2.1]; exact obV, fun _ => by rw [hsz]; exact e5 i3⟩,
    ⟨E', cfV, kV, iV, fV, q1.1, gV, stV, by rw [q2.1]; exact knV, by rw [q2.1]; exact obV, by rw [q2.2.1]; exact asV, q3⟩, ⟨E', cfC, kC, iC, fC, q1.1, gC, stC, by rw [q2.1]; exact knV, by rw [q2.1]; exact obV, by rw [q2.2.1]; exact asC, q4⟩,
    ⟨V', ⟨q5.1, State.isArrayOf_alike al'.symm q5.2.1, q5.2.2.1⟩, q6, by rw [← al'.findClass]; exact q7, q8, fun j hj => by have := q9 j hj; rwa [Nat.zero_add] at this⟩, fun O n d w F n1 n2 => ?_⟩, hl, hc, hs⟩, st⟩
  · intro y hy
    simp only [List.mem_cons, List.not_mem_nil, or_false] at hy
    rcases hy with rfl | rfl <;> rfl
  · by_cases q : y = x
    · subst q
      cases hD.symm.trans hy
      exact ⟨E', q1.1, q2.2.1, q2.1, hsz⟩
    · exact ⟨cy, q10 y cy q hy, rfl, rfl, rfl⟩
  · obtain ⟨D3, cf, k, i, f, g1, g2, g3, g4, g5, g6, g7⟩ := F
    cases hD.symm.trans g1
    simp only [RoadKit.slotOf, g2, gV, gC, Option.map_some, Option.getD_some] at n1 n2
    exact ⟨E', cf, k, i, f, q1.1, g2, g3, by rw [q2.1]; exact g4, by rw [q2.1]; exact g5, by rw [q2.2.1]; exact g6, by rw [q2.2.2 f.slot (by simp [n1, n2])]; exact g7⟩
end StrChars.Road
namespace StrChars.Road
open Jvm Sem ClassFile Op Lib Jvm.Stand Jvm.Free Jvm.Free.XT
/-- WHAT COMES BACK, the byte[] as a list of values -/
def QA (Z : State) (x : Addr) (zn : Int32) (cs : List Int32) (h : Heap) (v : Option Value) (h' : Heap) (L : List Loc) : Prop := v = none ∧ (∀ y ∈ L, y.base = x) ∧ RoadKit.Keep h h' [x] ∧ h'.size = h.size + 1 ∧ RoadKit.Exa Z h' x ST ∧ RoadKit.Fld Z h' x ST "value" "[B" (.ref h.size) ∧ RoadKit.Fld Z h' x ST "coder" "B" (.int 0) ∧
  (∃ kb, Z.vm.findClass "[B" = some kb ∧ RoadKit.Arv Z h' h.size kb .byte zn (cs.map fun c => .int (lo8 c)) (.int 0)) ∧
  ∀ (O n d : String) (w : Value), RoadKit.Fld Z h x O n d w → RoadKit.slotOf Z O n d ≠ RoadKit.slotOf Z ST "value" "[B" → RoadKit.slotOf Z O n d ≠ RoadKit.slotOf Z ST "coder" "B" → RoadKit.Fld Z h' x O n d w
/-- **new String(chars) AT A CALL, THE ARRAYS AS LISTS**: the char[] at b holds cs, not empty, no char above 255 -/
theorem backArv {p : Program} {l : Launch} {e : Env} {R : Room} {s : State} {args : Array Value} {below : List Frame} {len W : Nat} {Z : State} {a0 : Array Value} {h : Heap} (hZ : Z.Warmed39 s.vm) (hw : ∀ d ∈ words, d.before a0 Z = true) {kI : Nat} (wi : (Jvm.Cond.instantiable ST kI).before a0 Z = true)
    {x b : Addr} {k : ClassId} {zn z : Int32} {cs : List Int32} {dv v0 c0 : Value} (E : RoadKit.Exa Z h x ST) (V : RoadKit.Fld Z h x ST "value" "[B" v0) (C : RoadKit.Fld Z h x ST "coder" "B" c0) (K : RoadKit.Arv Z h b k .char zn (cs.map Value.int) dv) (S : RoadKit.Sta Z h ST "COMPACT_STRINGS" "Z" (.int z)) (hz : ¬ z = 0)
    (hlen : zn.toNatClampNeg = cs.length) (h0 : 0 < cs.length) (hbig : cs.length ≤ 536870912) (hall : ∀ c ∈ cs, ¬ 255 < c) (hfr : 4 ≤ R.frames) (hlo : W + 65 ≤ R.locals) :
    Back l R p e below s args New1.yN len W (fun P a => a = #[.ref x, .ref b] ∧ P.U.heap = h ∧ P.cells + 1 ≤ R.cells ∧ P.slots + cs.length ≤ R.slots)
      (fun P _ v B => ∃ L, QA Z x zn cs h v B.U.heap L ∧ B.locs = P.locs ++ L ∧ B.cells = P.cells + 1 ∧ B.slots = P.slots + cs.length) := by
  obtain ⟨A, K1, K2, K3, K4, K5, K6⟩ := K
  have e : A.slots.size = cs.length := K3.trans hlen
  have hat : ∀ (i : Nat) (hi : i < cs.length), A.slots[i]? = some (.int cs[i]) := fun i hi => by rw [K5 i (by omega)]; simp [List.getD_eq_getElem?_getD, hi]
  have hcv : ∀ (i : Nat) (hi : i < cs.length), cv A i = cs[i] := fun i hi => by unfold cv; rw [hat i hi]
  have hty : Typed .char A := fun i v hv => by
    have hi : i < A.slots.size := (Array.getElem?_eq_some_iff.mp hv).1
    have q := K5 i hi
    rw [hv] at q
    rw [Option.some.inj q]
    exact K6 i hi
  refine Back.mono (back hZ hw wi E V C K1 hty S hz (by omega) (by omega) (fun i hi => by rw [hcv i (by omega)]; exact hall _ (List.getElem_mem _)) hfr hlo) (fun P a hp => ⟨hp.1, hp.2.1, hp.2.2.1, by rw [e]; exact hp.2.2.2⟩) (fun P a v B hp hq => ?_)
  obtain ⟨L, ⟨q1, q2, q3, q4, q5, q6, q7, ⟨V', v1, v2, v3, v4, v5⟩, q9⟩, hl, hc, hs⟩ := hq
  refine ⟨L, ⟨q1, q2, q3, q4, q5, q6, q7, ⟨V'.cls, v3, V', v1, rfl, by rw [v4, e, hlen], K4, fun i hi => ?_, fun i hi => ?_⟩, q9⟩, hl, hc, by rw [hs, e]⟩
  · have hi' : i < cs.length := by omega
    rw [v5 i (by omega), hcv i hi']; simp [List.getD_eq_getElem?_getD, hi']
  · have hi' : i < cs.length := by omega
    simp only [List.getD_eq_getElem?_getD, List.getElem?_map, List.getElem?_eq_getElem hi', Option.map_some, Option.getD_some]
    exact fits_lo8 _
end StrChars.Road
namespace StrChars.Road
open Jvm Sem ClassFile Op Lib Jvm.Stand Jvm.Free Jvm.Free.XT
/-- WHAT COMES BACK, in the writer's own shape -/
def QV (Z : State) (x : Addr) (N : Int32) (bs : List Int32) (h : Heap) (n0 : Nat) (v : Option Value) (h' : Heap) (L : List Loc) : Prop := v = none ∧ RoadKit.Fr n0 L ∧ RoadKit.Keep h h' [x] ∧ RoadKit.Exa Z h' x ST ∧ RoadKit.Fld Z h' x ST "coder" "B" (.int 0) ∧
  ∃ (t : Addr) (kb : ClassId), n0 ≤ t ∧ h.size ≤ t ∧ ¬ t = x ∧ RoadKit.Fld Z h' x ST "value" "[B" (.ref t) ∧ RoadKit.Arv Z h' t kb .byte N (bs.map Value.int) (.int 0)
/-- **new String(chars) AT A CALL, FOR THE WRITER**: a char[] of n known ints, each 0 to 255 -/
theorem backV {p : Program} {l : Launch} {e : Env} {R : Room} {s : State} {args : Array Value} {below : List Frame} {len W : Nat} {Z : State} {a0 : Array Value} {h : Heap} (hZ : Z.Warmed39 s.vm) (hw : ∀ d ∈ words, d.before a0 Z = true) {kI : Nat} (wi : (Jvm.Cond.instantiable ST kI).before a0 Z = true)
    {x b : Addr} {kC : ClassId} {cs bs : List Int32} {d v0 c0 : Value} {z N : Int32} {n n0 : Nat} (hx0 : n0 ≤ x) (hh0 : n0 ≤ h.size) (E : RoadKit.Exa Z h x ST) (V : RoadKit.Fld Z h x ST "value" "[B" v0) (C : RoadKit.Fld Z h x ST "coder" "B" c0) (K : RoadKit.Arv Z h b kC .char N (cs.map Value.int) d) (S : RoadKit.Sta Z h ST "COMPACT_STRINGS" "Z" (.int z)) (hz : ¬ z = 0)
    (hn : cs.length = n) (hN : N = Int32.ofNat n) (l0 : 0 < n) (l2 : n ≤ 4000) (hp : ∀ c ∈ cs, ¬ c < 0 ∧ ¬ (255 : Int32) < c) (hb : bs = cs.map (fun c => c.toInt8.toInt32)) (hfr : 4 ≤ R.frames) (hlo : W + 65 ≤ R.locals) :
    Back l R p e below s args (⟨"java/lang/String", "<init>", "([C)V"⟩ : MethodName) len W (fun P a => a = #[.ref x, .ref b] ∧ P.U.heap = h ∧ P.cells + 1 ≤ R.cells ∧ P.slots + n ≤ R.slots)
      (fun P _ v B => ∃ L, QV Z x N bs h n0 v B.U.heap L ∧ B.locs = P.locs ++ L ∧ B.cells = P.cells + 1 ∧ B.slots = P.slots + n) := by
  subst hn hN hb
  refine Back.mono (backArv hZ hw wi E V C K S hz (n32 (by omega)) l0 (by omega) (fun c hc => (hp c hc).2) hfr hlo) (fun P a hp => hp) (fun P a v B hp hq => ?_)
  obtain ⟨L, ⟨q1, q2, q3, q4, q5, q6, q7, ⟨kb, v1, v2⟩, q9⟩, hl, hc, hs⟩ := hq
  exact ⟨L, ⟨q1, fun y hy => by rw [q2 y hy]; exact hx0, q3, q5, q7, h.size, kb, hh0, Nat.le_refl _, Nat.ne_of_gt E.lt, q6, by rw [List.map_map]; exact v2⟩, hl, hc, hs⟩
end StrChars.Road
namespace StrChars
open Jvm Sem ClassFile Op Lib Jvm.Stand Jvm.Free.XT Jvm.Free.ALB Jvm.Free.JM Jvm.Free
open Jvm.Lib.Cold (StaticIs)
def hi8 (x : Int32) : Int32 := lo8 (x >>> ((8 : Int32) &&& 31))
/-- what StringUTF16.getChar makes of two bytes -/
def pairCh (u v : Int32) : Int32 := (((u &&& 255) <<< ((0 : Int32) &&& 31)) ||| ((v &&& 255) <<< ((8 : Int32) &&& 31))).toUInt32.toUInt16.toUInt32.toInt32
theorem lo8_and (x : Int32) : (lo8 x &&& 255).toBitVec.toNat = x.toBitVec.toNat % 256 := by
  have h : (lo8 x).toBitVec = (x.toBitVec.signExtend 8).signExtend 32 := by rw [lo8, Int8.toBitVec_toInt32, Int32.toBitVec_toInt8]
  rw [Int32.toBitVec_and, BitVec.toNat_and, h]
  have e : ((x.toBitVec.signExtend 8).signExtend 32).toNat % 256 = x.toBitVec.toNat % 256 := by
    rw [BitVec.toNat_signExtend]
    have hlt := x.toBitVec.isLt
    simp only [BitVec.toNat_setWidth, BitVec.toNat_signExtend]
    split <;> split <;> omega
  rw [← e]
  exact Nat.and_two_pow_sub_one_eq_mod _ 8
theorem pair_says {c : Int32} (h0 : ¬ c < 0) (h1 : ¬ 65535 < c) : pairCh (lo8 c) (hi8 c) = c := by
  rw [Int32.lt_iff_toInt_lt] at h0 h1
  have e0 : (0 : Int32).toInt = 0 := rfl
  have e1 : (65535 : Int32).toInt = 65535 := rfl
  have hc : c.toInt = c.toBitVec.toNat := by
    have := c.toBitVec.isLt
    have e : c.toInt = c.toBitVec.toInt := rfl
    rw [e] at h0 h1
    rw [e]
    rw [BitVec.toInt_eq_toNat_cond] at h0 h1 ⊢
    split at h0 <;> split <;> omega
  have hn : c.toBitVec.toNat < 65536 := by omega
  have a1 := lo8_and c
  have a2 : (hi8 c &&& 255).toBitVec.toNat = c.toBitVec.toNat / 256 := by
    rw [hi8, lo8_and]
    have e : ((8 : Int32) &&& 31) = 8 := by decide
    rw [e, Int32.toBitVec_shiftRight]
    have e2 : ((8 : Int32).toBitVec.smod 32) = 8#32 := by decide
    rw [e2, BitVec.sshiftRight_eq', BitVec.toNat_sshiftRight_of_msb_false (by rw [BitVec.msb_eq_false_iff_two_mul_lt]; omega)]
    show c.toBitVec.toNat >>> 8 % 256 = _
    rw [Nat.shiftRight_eq_div_pow]
    omega
  unfold pairCh
  apply Int32.toBitVec_inj.mp
  apply BitVec.eq_of_toNat_eq
  have f0 : ((0 : Int32) &&& 31) = 0 := by decide
  have f8 : ((8 : Int32) &&& 31) = 8 := by decide
  rw [f0, f8]
  have g : (((lo8 c &&& 255) <<< (0 : Int32)) ||| ((hi8 c &&& 255) <<< (8 : Int32))).toBitVec.toNat = c.toBitVec.toNat := by
    rw [Int32.toBitVec_or, Int32.toBitVec_shiftLeft, Int32.toBitVec_shiftLeft]
    have s0 : ((0 : Int32).toBitVec.smod 32) = 0#32 := by decide
    have s8 : ((8 : Int32).toBitVec.smod 32) = 8#32 := by decide
    rw [s0, s8, BitVec.toNat_or]
    simp only [BitVec.shiftLeft_eq', BitVec.toNat_shiftLeft, a1, a2]
    show (c.toBitVec.toNat % 256) <<< 0 % 2 ^ 32 ||| (c.toBitVec.toNat / 256) <<< 8 % 2 ^ 32 = _
    rw [Nat.shiftLeft_zero, Nat.mod_eq_of_lt (show c.toBitVec.toNat % 256 < 2 ^ 32 by omega), Nat.mod_eq_of_lt (show (c.toBitVec.toNat / 256) <<< 8 < 2 ^ 32 by rw [Nat.shiftLeft_eq]; omega), Nat.or_comm, ← Nat.shiftLeft_add_eq_or_of_lt (by omega), Nat.shiftLeft_eq]
    omega
  show BitVec.toNat (((((lo8 c &&& 255) <<< (0 : Int32)) ||| ((hi8 c &&& 255) <<< (8 : Int32))).toBitVec.setWidth 16).setWidth 32) = _
  rw [BitVec.toNat_setWidth, BitVec.toNat_setWidth, g]
  omega
end StrChars
namespace StrChars
open Jvm Sem ClassFile Op Lib Jvm.Stand Jvm.Free.XT Jvm.Free.ALB Jvm.Free.JM Jvm.Free
open Jvm.Lib.Cold (StaticIs)
/-- charAt's cast of a byte read back -/
def chr8 (u : Int32) : Int32 := (u &&& 255).toUInt32.toUInt16.toUInt32.toInt32
theorem chr8_lo8 {c : Int32} (h0 : ¬ c < 0) (h1 : ¬ 255 < c) : chr8 (lo8 c) = c := by
  have t : ∀ k : Fin 256, (Int32.ofNat k.val).toUInt32.toUInt16.toUInt32.toInt32 = Int32.ofNat k.val := by decide +kernel
  unfold chr8
  rw [lo8_mask h0 h1]
  rw [Int32.lt_iff_toInt_lt] at h0 h1
  have e0 : (0 : Int32).toInt = 0 := rfl
  have e1 : (255 : Int32).toInt = 255 := rfl
  obtain ⟨k, hk⟩ : ∃ k : Nat, c.toInt = k := ⟨c.toInt.toNat, by omega⟩
  have hx : c = Int32.ofNat k := Int32.toInt_inj.mp (by rw [hk, Int32.toInt_ofNat_small (by omega)])
  rw [hx]
  exact t ⟨k, by omega⟩
theorem narrow_ch {c : Int32} (h0 : ¬ c < 0) (h1 : ¬ 65535 < c) : narrow .char (.int c) = .int c := by
  have q : narrow .char (.int (pairCh (lo8 c) (hi8 c))) = .int (pairCh (lo8 c) (hi8 c)) := narrow_c _
  rwa [pair_says h0 h1] at q
/-- the array's cell V codes the n chars f 0 .. f (n - 1) by the coder cd, as the JDK does: coder 1 just where some char is above 255 -/
def Cod (cd : Int32) (n : Nat) (f : Nat → Int32) (V : Cell) : Prop := (cd = 0 ∧ V.slots.size = n ∧ ∀ j, j < n → V.slots[j]? = some (.int (lo8 (f j))) ∧ ¬ 255 < f j) ∨ (cd = 1 ∧ V.slots.size = 2 * n ∧ (∀ j, j < n → V.slots[2 * j]? = some (.int (lo8 (f j))) ∧ V.slots[2 * j + 1]? = some (.int (hi8 (f j)))) ∧ ∃ j, j < n ∧ 255 < f j)
theorem Cod.cd {cd : Int32} {n : Nat} {f : Nat → Int32} {V : Cell} (h : Cod cd n f V) : cd = 0 ∨ cd = 1 := h.imp (fun q => q.1) fun q => q.1
/-- **x is a String of the n chars f 0 .. f (n - 1)**, Latin-1 or UTF-16; its array at t has the cell V -/
def Txt (x t : Addr) (V : Cell) (cd : Int32) (n : Nat) (f : Nat → Int32) (U : State) : Prop := Exact "java/lang/String" x U ∧ Has x "java/lang/String" "value" "[B" (.ref t) U ∧ Has x "java/lang/String" "coder" "B" (.int cd) U ∧ XT.Arr .byte t V U ∧ Cod cd n f V ∧ ∀ j, j < n → ¬ f j < 0 ∧ ¬ 65535 < f j
theorem Txt.mv {x t : Addr} {V : Cell} {cd : Int32} {n : Nat} {f : Nat → Int32} {U U' : State} (h : Txt x t V cd n f U) (hal : U.vm.Alike U'.vm) (hh : U'.heap = U.heap) : Txt x t V cd n f U' := ⟨h.1.mv hal hh, h.2.1.mv hal hh, h.2.2.1.mv hal hh, h.2.2.2.1.mv hal hh, h.2.2.2.2⟩
namespace IsL
def yN : MethodName := ⟨"java/lang/String", "isLatin1", "()Z"⟩
abbrev yB : ByteArray := jdk_42_method_154_code
theorem d0 : decode yB 0 = .ok (.getstatic 38, 3) := by decide +kernel
theorem d3 : decode yB 3 = .ok (.ifCond (.eq) 14, 3) := by decide +kernel
theorem d6 : decode yB 6 = .ok (.aload_n 0, 1) := by decide +kernel
theorem d7 : decode yB 7 = .ok (.getfield 15, 3) := by decide +kernel
theorem d10 : decode yB 10 = .ok (.ifCond (.ne) 7, 3) := by decide +kernel
theorem d13 : decode yB 13 = .ok (.iconst 1, 1) := by decide +kernel
theorem d14 : decode yB 14 = .ok (.goto 4, 3) := by decide +kernel
theorem d17 : decode yB 17 = .ok (.iconst 0, 1) := by decide +kernel
theorem d18 : decode yB 18 = .ok (.ireturn, 1) := by decide +kernel
def site : List Cond := [.fieldLink "java/lang/String" 38 "java/lang/String" "COMPACT_STRINGS" "Z", .fieldLink "java/lang/String" 15 "java/lang/String" "coder" "B"]
def tab : Cond := tabOf yN yB 1 (some .boolean) site
def P (x : Addr) (cd z : Int32) (args : Array Value) (s : State) : Prop := args = #[.ref x] ∧ Has x "java/lang/String" "coder" "B" (.int cd) s ∧ (cd = 0 ∨ cd = 1) ∧ StaticIs s "java/lang/String" "COMPACT_STRINGS" "Z" (.int z) ∧ ¬ z = 0
def E (cd : Int32) (r : Option Value) (s u : State) : Prop := XT.PureE (some (.int (1 - cd))) r s u
theorem law (l : Launch) (x : Addr) (cd z : Int32) : Law l yN 1 0 0 0 yB 1 (some .boolean) site (P x cd z) (E cd) [] 0 0 := by
  refine Law.of_walk (plainFor_of_name (by decide +kernel)) (by decide +kernel) (by decide +kernel) (by decide) (fun _ _ h => by rw [h.1]; rfl) (fun _ U U' hal hh h => ⟨h.1, h.2.1.mv hal hh, h.2.2.1, h.2.2.2.1.there hal hh, h.2.2.2.2⟩) (fun r U U' V V' h1 hal h2 h => XT.PureE.mv r U U' V V' h1 hal h2 h) ?_
  intro p e s m args below meth c s₁ X0 hexec hbytes hml hret hlk hnm hown hh0 W hP
  obtain ⟨rfl, hx, hc, s1, hz⟩ := hP
  have c1 : Steps p.tables e below (s₁.setTop (entryFrame m #[.ref x] 1)) (s₁.setTop (mkF m 0 #[.val (.ref x)] [])) := entry rfl
  obtain ⟨T2, X2, q2, st2⟩ := X0.sget hexec hown (wk W (.fieldLink "java/lang/String" 38 "java/lang/String" "COMPACT_STRINGS" "Z")) s1 (fun _ _ h => by rw [hh0]; exact h) (g := (mkF m 0 #[.val (.ref x)] [])) rfl (hb hbytes d0)
  have hh2 := q2.trans hh0
  have c3 : Steps p.tables e below (s₁.setTop (entryFrame m #[.ref x] 1)) (T2.setTop (mkF m 7 #[.val (.ref x)] [.ref x])) := (c1.trans (st2 _ (Steps.refl _))).trans (by
    refine XS.ifNo X2.here hexec rfl (hb hbytes d3) rfl (i0_eq_f hz) ?_
    refine XS.aloadN X2.here hexec rfl (hb hbytes d6) rfl rfl ?_
    exact Steps.refl _)
  obtain ⟨T4, X4, q4, st4⟩ := X2.hget hexec hown (wk W (.fieldLink "java/lang/String" 15 "java/lang/String" "coder" "B")) (hx.mv X2.warmed.alike hh2) (g := (mkF m 7 #[.val (.ref x)] [.ref x])) rfl (rest := []) rfl (hb hbytes d7)
  have c5 : Steps p.tables e below (s₁.setTop (entryFrame m #[.ref x] 1)) (T4.setTop (mkF m 10 #[.val (.ref x)] [.int cd])) := c3.trans (st4 _ (Steps.refl _))
  have c6 : Steps p.tables e below (s₁.setTop (entryFrame m #[.ref x] 1)) (T4.setTop (mkF m 18 #[.val (.ref x)] [.int (1 - cd)])) := by
    rcases hc with rfl | rfl
    · exact c5.trans (by
        refine XS.ifNo X4.here hexec rfl (hb hbytes d10) rfl (i0_ne_f rfl) ?_
        refine iconstV X4.here hexec rfl 1 (hb hbytes d13) (by decide) ?_
        refine XS.goto X4.here hexec rfl (pc0 := 14) rfl (hb hbytes d14) (by decide) rfl ?_
        exact Steps.refl _)
    · exact c5.trans (by
        refine XS.ifYes X4.here hexec rfl (pc0 := 10) rfl (hb hbytes d10) rfl (i0_ne_t (by decide)) (by decide) rfl ?_
        refine iconstV X4.here hexec rfl 0 (hb hbytes d17) (by decide) ?_
        exact Steps.refl _)
  exact ⟨T4, some (.int (1 - cd)), _, _, _, X4, rfl, rfl, rfl, (fun h => by cases h), ⟨rfl, q4.trans hh2⟩, fun fs hl => c6.trans (X4.ireturnOut hexec hret (by rcases hc with rfl | rfl <;> rfl) (Or.inr (Or.inl rfl)) (hb hbytes d18) hl)⟩
end IsL
namespace LChA
def yN : MethodName := ⟨"java/lang/StringLatin1", "charAt", "([BI)C"⟩
abbrev yB : ByteArray := jdk_43_method_2_code
theorem d0 : decode yB 0 = .ok (.iload_n 1, 1) := by decide +kernel
theorem d1 : decode yB 1 = .ok (.aload_n 0, 1) := by decide +kernel
theorem d2 : decode yB 2 = .ok (.arraylength, 1) := by decide +kernel
theorem d3 : decode yB 3 = .ok (.invokestatic 9, 3) := by decide +kernel
theorem d6 : decode yB 6 = .ok (.aload_n 0, 1) := by decide +kernel
theorem d7 : decode yB 7 = .ok (.iload_n 1, 1) := by decide +kernel
theorem d8 : decode yB 8 = .ok (.baload, 1) := by decide +kernel
theorem d9 : decode yB 9 = .ok (.sipush 255, 3) := by decide +kernel
theorem d12 : decode yB 12 = .ok (.iand, 1) := by decide +kernel
theorem d13 : decode yB 13 = .ok (.i2c, 1) := by decide +kernel
theorem d14 : decode yB 14 = .ok (.ireturn, 1) := by decide +kernel
def site : List Cond := [JO.Str_checkIndex.tab] ++ staticW "java/lang/StringLatin1" 9 JO.Str_checkIndex.yN
def tab : Cond := tabOf yN yB 2 (some .char) site
def P (t : Addr) (V : Cell) (i : Nat) (u : Int32) (fm : Value) (args : Array Value) (s : State) : Prop := args = #[.ref t, .int (Int32.ofNat i)] ∧ XT.Arr .byte t V s ∧ V.slots[i]? = some (.int u) ∧ (StaticIs s "jdk/internal/util/Preconditions" "SIOOBE_FORMATTER" "Ljava/util/function/BiFunction;" fm ∧ fm.isRef = true)
def E (u : Int32) (r : Option Value) (s w : State) : Prop := XT.PureE (some (.int (chr8 u))) r s w
theorem law (l : Launch) (t : Addr) (V : Cell) (i : Nat) (u : Int32) (fm : Value) : Law l yN 2 2 2 27 yB 2 (some .char) site (P t V i u fm) (E u) [] 0 0 := by
  refine Law.of_walk (plainFor_of_name (by decide +kernel)) (by decide +kernel) (by decide +kernel) (by decide) (fun _ _ h => by rw [h.1]; rfl) (fun _ U U' hal hh h => ⟨h.1, h.2.1.mv hal hh, h.2.2.1, h.2.2.2.1.there hal hh, h.2.2.2.2⟩) (fun r U U' V V' h1 hal h2 h => XT.PureE.mv r U U' V V' h1 hal h2 h) ?_
  intro p e s m args below meth c s₁ X0 hexec hbytes hml hret hlk hnm hown hh0 W hP
  obtain ⟨rfl, hV, hu, s1, rf⟩ := hP
  have v31 := hV.2.2.2
  have hi : i < V.slots.size := (Array.getElem?_eq_some_iff.mp hu).1
  have c1 : Steps p.tables e below (s₁.setTop (entryFrame m #[.ref t, .int (Int32.ofNat i)] 2)) (s₁.setTop (mkF m 0 #[.val (.ref t), .val (.int (Int32.ofNat i))] [])) := entry rfl
  have c2 : Steps p.tables e below (s₁.setTop (entryFrame m #[.ref t, .int (Int32.ofNat i)] 2)) (s₁.setTop (mkF m 3 #[.val (.ref t), .val (.int (Int32.ofNat i))] [.int (Int32.ofNat V.slots.size), .int (Int32.ofNat i)])) := c1.trans (by
    refine XS.iloadN X0.here hexec rfl (hb hbytes d0) rfl ?_
    refine XS.aloadN X0.here hexec rfl (hb hbytes d1) rfl rfl ?_
    refine X0.alen hexec (hV.mv X0.warmed.alike hh0) rfl rfl (hb hbytes d2) ?_
    exact Steps.refl _)
  obtain ⟨v3, T3, X3, E3, g3⟩ := X0.callS hexec (JO.Str_checkIndex.law l (Int32.ofNat i) (Int32.ofNat V.slots.size) fm) hown (wks W (staticW "java/lang/StringLatin1" 9 JO.Str_checkIndex.yN)) (wk W JO.Str_checkIndex.tab) (W := 0) (Nat.le_of_ble_eq_true rfl) (Nat.le_of_ble_eq_true rfl) (Nat.le_refl _) (Nat.le_refl _) (g := (mkF m 3 #[.val (.ref t), .val (.int (Int32.ofNat i))] [.int (Int32.ofNat V.slots.size), .int (Int32.ofNat i)])) rfl (by rw [hml]; rfl) c2 (argsL := [.int (Int32.ofNat i), .int (Int32.ofNat V.slots.size)]) (rest := []) rfl rfl (by show 2 * 0 + 0 ≤ _; decide) (hb hbytes d3) (⟨rfl, rf, s1.there X0.warmed.alike hh0, Int32.ofNat_not_neg (by omega), lt32 v31 hi⟩)
  obtain ⟨rfl, q3⟩ := E3
  have hh3 := q3.trans hh0
  have c4 : Steps p.tables e below (s₁.setTop (entryFrame m #[.ref t, .int (Int32.ofNat i)] 2)) (T3.setTop (mkF m 14 #[.val (.ref t), .val (.int (Int32.ofNat i))] [.int (chr8 u)])) := Steps.trans g3 (by
    refine XS.aloadN X3.here hexec rfl (hb hbytes d6) rfl rfl ?_
    refine XS.iloadN X3.here hexec rfl (hb hbytes d7) rfl ?_
    refine X3.aget hexec (hV.mv X3.warmed.alike hh3) rfl hu rfl rfl (hb hbytes d8) ?_
    refine sipushV X3.here hexec rfl 255 (hb hbytes d9) (by decide) ?_
    refine XS.iand X3.here hexec rfl (hb hbytes d12) rfl ?_
    refine i2c X3.here hexec rfl (hb hbytes d13) rfl ?_
    exact Steps.refl _)
  exact ⟨T3, some (.int (chr8 u)), _, _, _, X3, rfl, rfl, rfl, (fun h => by cases h), ⟨rfl, hh3⟩, fun fs hl => c4.trans (X3.ireturnOut hexec hret (narrow_c _) (Or.inr (Or.inr (Or.inr (Or.inl rfl)))) (hb hbytes d14) hl)⟩
end LChA
end StrChars
namespace StrChars.Road
open Jvm Sem ClassFile Op Lib Jvm.Stand Jvm.Free Jvm.Free.XT
open Jvm.Lib.Cold (StaticIs)
theorem consq {a : Array Value} {s : State} {c : Jvm.Cond} {L : List Jvm.Cond} (h0 : c.before a s = true) (h : ∀ w ∈ L, w.before a s = true) : ∀ w ∈ c :: L, w.before a s = true := fun w hw => (List.mem_cons.mp hw).elim (fun e => e ▸ h0) (h w)
/-- the bytes of the chars cs, low before high -/
def wideBytes : List Int32 → List Value
  | [] => []
  | c :: cs => .int (lo8 c) :: .int (hi8 c) :: wideBytes cs
theorem wide_lo (d : Value) : ∀ (cs : List Int32) (j : Nat), j < cs.length → (wideBytes cs).getD (2 * j) d = .int (lo8 (cs.getD j 0))
  | [], j, h => absurd h (Nat.not_lt_zero j)
  | c :: cs, 0, _ => rfl
  | c :: cs, j + 1, h => by
    have q := wide_lo d cs j (by simpa using h)
    rw [show 2 * (j + 1) = 2 * j + 1 + 1 from by omega]
    simpa [wideBytes] using q
theorem wide_hi (d : Value) : ∀ (cs : List Int32) (j : Nat), j < cs.length → (wideBytes cs).getD (2 * j + 1) d = .int (hi8 (cs.getD j 0))
  | [], j, h => absurd h (Nat.not_lt_zero j)
  | c :: cs, 0, _ => rfl
  | c :: cs, j + 1, h => by
    have q := wide_hi d cs j (by simpa using h)
    rw [show 2 * (j + 1) + 1 = 2 * j + 1 + 1 + 1 from by omega]
    simpa [wideBytes] using q
theorem low_at (d : Value) (cs : List Int32) (j : Nat) (h : j < cs.length) : (cs.map fun c => Value.int (lo8 c)).getD j d = .int (lo8 (cs.getD j 0)) := by
  simp [List.getD_eq_getElem?_getD, h]
/-- an array of N2 bytes vs codes the chars cs by the coder cd -/
def CodA (cs : List Int32) (cd N2 : Int32) (vs : List Value) : Prop := (cd = 0 ∧ N2 = Int32.ofNat cs.length ∧ vs = (cs.map fun c => Value.int (lo8 c)) ∧ ∀ c ∈ cs, ¬ 255 < c) ∨ (cd = 1 ∧ N2 = Int32.ofNat (2 * cs.length) ∧ vs = wideBytes cs ∧ ∃ c ∈ cs, 255 < c)
theorem CodA.cod {cs : List Int32} {cd N2 : Int32} {vs : List Value} {V : Cell} (h : CodA cs cd N2 vs) (hn : 2 * cs.length < 2 ^ 31) (hs : V.slots.size = N2.toNatClampNeg) (hv : RoadKit.Has V vs (.int 0)) : Cod cd cs.length (fun j => cs.getD j 0) V := by
  rcases h with ⟨rfl, rfl, rfl, h⟩ | ⟨rfl, rfl, rfl, c, hc, hw⟩
  · rw [n32 (by omega)] at hs
    exact Or.inl ⟨rfl, hs, fun j hj => ⟨by rw [hv j (by omega), low_at _ _ _ hj], by
      have e : cs.getD j 0 = cs[j] := by simp [List.getD_eq_getElem?_getD, hj]
      show ¬ 255 < cs.getD j 0
      rw [e]; exact h _ (List.getElem_mem _)⟩⟩
  · rw [n32 (by omega)] at hs
    obtain ⟨j, hj, rfl⟩ := List.getElem_of_mem hc
    exact Or.inr ⟨rfl, hs, fun j hj => ⟨by rw [hv _ (by omega), wide_lo _ _ _ hj], by rw [hv _ (by omega), wide_hi _ _ _ hj]⟩, j, hj, by
      have e : cs.getD j 0 = cs[j] := by simp [List.getD_eq_getElem?_getD, hj]
      show 255 < cs.getD j 0
      rw [e]; exact hw⟩
/-- an object of exactly java/lang/String, its two fields found: as the laws ask it -/
theorem strObj {Z U : State} {a0 : Array Value} {kI : Nat} (wi : (Jvm.Cond.instantiable ST kI).before a0 Z = true) (al : Z.vm.Alike U.vm) {x : Addr} {v0 c0 : Value} (E : RoadKit.Exa Z U.heap x ST) (V : RoadKit.Fld Z U.heap x ST "value" "[B" v0) (C : RoadKit.Fld Z U.heap x ST "coder" "B" c0) :
    ∃ (D : Cell) (fV fC : Field), Blank ST x D U ∧ Found ST "value" "[B" fV U ∧ Found ST "coder" "B" fC U ∧ D.slots[fV.slot]? = some v0 ∧ D.slots[fC.slot]? = some c0 ∧ RoadKit.slotOf Z ST "value" "[B" = fV.slot ∧ RoadKit.slotOf Z ST "coder" "B" = fC.slot := by
  obtain ⟨D, cfV, kV, iV, fV, hD, gV, stV, knV, obV, asV, slV⟩ := V
  obtain ⟨D', cfC, kC, iC, fC, hD', gC, stC, -, -, asC, slC⟩ := C
  cases hD.symm.trans hD'
  obtain ⟨D2, kD, e1, e2, e3, e4, e5⟩ := E
  cases hD.symm.trans e1
  obtain ⟨c2, k2, i1, i2, i3, -⟩ := Cond.instantiable_spec wi
  cases e2.symm.trans i1
  cases e3.symm.trans i2
  obtain ⟨kU, u1, u2⟩ := al.2.2 _ _ e3
  exact ⟨D, fV, fC, ⟨hD, ⟨knV, fun q hq => by rw [hq] at obV; cases obV⟩, by rw [al.findClass]; exact e2, kU, u1, by rw [u2]; exact i3, by rw [u2]; exact e5 i3⟩, ⟨SBG.found_only al ⟨cfV, kV, iV, gV⟩, stV⟩, ⟨SBG.found_only al ⟨cfC, kC, iC, gC⟩, stC⟩, slV, slC, by simp [RoadKit.slotOf, gV], by simp [RoadKit.slotOf, gC]⟩
theorem sta_is {Z U : State} (al : Z.vm.Alike U.vm) {C n d : String} {v : Value} (S : RoadKit.Sta Z U.heap C n d v) : StaticIs U C n d v := by
  obtain ⟨cfS, iS, kS, fS, st, cS, t1, t2, t3, t4, t5, t6, t7⟩ := S
  exact StaticIs.there (s := { Z with heap := U.heap }) ⟨cfS, iS, kS, fS, st, cS, t1, t2, t3, t4, t5, (fun q => by rw [q] at t6; cases t6), t7⟩ al rfl
end StrChars.Road
namespace StrChars.Road
open Jvm Sem ClassFile Op Lib Jvm.Stand Jvm.Free Jvm.Free.XT
open Jvm.Lib.Cold (StaticIs)
/-- the road's facts of a String, as the laws ask it -/
theorem txt_of {Z U : State} {a0 : Array Value} {kI : Nat} (wi : (Jvm.Cond.instantiable ST kI).before a0 Z = true) (al : Z.vm.Alike U.vm) {x t : Addr} {kb : ClassId} {cs : List Int32} {cd N2 : Int32} {vs : List Value} (E : RoadKit.Exa Z U.heap x ST) (V : RoadKit.Fld Z U.heap x ST "value" "[B" (.ref t)) (C : RoadKit.Fld Z U.heap x ST "coder" "B" (.int cd)) (K : RoadKit.Arv Z U.heap t kb .byte N2 vs (.int 0)) (hc : CodA cs cd N2 vs) (hb : ∀ c ∈ cs, ¬ c < 0 ∧ ¬ (65535 : Int32) < c) (l2 : cs.length ≤ 4000) :
    ∃ A, Txt x t A cd cs.length (fun j => cs.getD j 0) U := by
  obtain ⟨A, K1, K2, K3, K4, K5, K6⟩ := K
  have hcod := hc.cod (by omega) K3 K5
  obtain ⟨D, fV, fC, hB, F1, F2, g1, g2, -, -⟩ := strObj wi al E V C
  exact ⟨A, ⟨_, hB.2.2.1, D, hB.1, rfl, by cases q : D.vm <;> first | rfl | exact absurd q (hB.2.1.2 _)⟩, Has.of hB F1 g1, Has.of hB F2 g2, ⟨K1.1, State.isArrayOf_alike al K1.2.1, K1.2.2, by rcases hcod with ⟨-, q, -⟩ | ⟨-, q, -⟩ <;> omega⟩, hcod, fun j hj => by
    have e : cs.getD j 0 = cs[j] := by simp [List.getD_eq_getElem?_getD, hj]
    show ¬ cs.getD j 0 < 0 ∧ ¬ 65535 < cs.getD j 0
    rw [e]; exact hb _ (List.getElem_mem _)⟩
end StrChars.Road
namespace StrChars
open Jvm Sem ClassFile Op Lib Jvm.Stand Jvm.Free.XT Jvm.Free.ALB Jvm.Free.JM Jvm.Free
open Jvm.Lib.Cold (StaticIs)
namespace ChN
def yN : MethodName := ⟨"java/lang/String", "charAt", "(I)C"⟩
abbrev yB : ByteArray := jdk_42_method_56_code
theorem d0 : decode yB 0 = .ok (.aload_n 0, 1) := by decide +kernel
theorem d1 : decode yB 1 = .ok (.invokevirtual 492, 3) := by decide +kernel
theorem d4 : decode yB 4 = .ok (.ifCond (.eq) 12, 3) := by decide +kernel
theorem d7 : decode yB 7 = .ok (.aload_n 0, 1) := by decide +kernel
theorem d8 : decode yB 8 = .ok (.getfield 9, 3) := by decide +kernel
theorem d11 : decode yB 11 = .ok (.iload_n 1, 1) := by decide +kernel
theorem d12 : decode yB 12 = .ok (.invokestatic 495, 3) := by decide +kernel
theorem d15 : decode yB 15 = .ok (.ireturn, 1) := by decide +kernel
def site : List Cond := [.fieldLink "java/lang/String" 9 "java/lang/String" "value" "[B", IsL.tab, LChA.tab] ++ virtW "java/lang/String" 492 "java/lang/String" IsL.yN IsL.yN ++ staticW "java/lang/String" 495 LChA.yN
def tab : Cond := tabOf yN yB 2 (some .char) site
def P (x t : Addr) (V : Cell) (n : Nat) (f : Nat → Int32) (z : Int32) (fm : Value) (i : Nat) (args : Array Value) (s : State) : Prop := args = #[.ref x, .int (Int32.ofNat i)] ∧ Txt x t V 0 n f s ∧ i < n ∧ StaticIs s "java/lang/String" "COMPACT_STRINGS" "Z" (.int z) ∧ ¬ z = 0 ∧ StaticIs s "jdk/internal/util/Preconditions" "SIOOBE_FORMATTER" "Ljava/util/function/BiFunction;" fm ∧ fm.isRef = true
def E (f : Nat → Int32) (i : Nat) (r : Option Value) (s u : State) : Prop := XT.PureE (some (.int (f i))) r s u
/-- charAt(i) of a Latin-1 String of n chars, i < n: f i -/
theorem law (l : Launch) (x t : Addr) (V : Cell) (n : Nat) (f : Nat → Int32) (z : Int32) (fm : Value) (i : Nat) : Law l yN 2 1 3 40 yB 2 (some .char) site (P x t V n f z fm i) (E f i) [] 0 0 := by
  refine Law.of_walk (plainFor_of_name (by decide +kernel)) (by decide +kernel) (by decide +kernel) (by decide) (fun _ _ h => by rw [h.1]; rfl) (fun _ U U' hal hh h => ⟨h.1, h.2.1.mv hal hh, h.2.2.1, h.2.2.2.1.there hal hh, h.2.2.2.2.1, h.2.2.2.2.2.1.there hal hh, h.2.2.2.2.2.2⟩) (fun r U U' V V' h1 hal h2 h => XT.PureE.mv r U U' V V' h1 hal h2 h) ?_
  intro p e s m args below meth c s₁ X0 hexec hbytes hml hret hlk hnm hown hh0 W hP
  obtain ⟨rfl, hx, hi, s1, hz, s3, rf⟩ := hP
  have v31 := hx.2.2.2.1.2.2.2
  have hr := hx.2.2.2.2.2 i hi
  have hx0 := hx.mv X0.warmed.alike hh0
  have c1 : Steps p.tables e below (s₁.setTop (entryFrame m #[.ref x, .int (Int32.ofNat i)] 2)) (s₁.setTop (mkF m 1 #[.val (.ref x), .val (.int (Int32.ofNat i))] [.ref x])) := Steps.trans (entry rfl) (by
    show Steps p.tables e below (s₁.setTop (mkF m 0 #[.val (.ref x), .val (.int (Int32.ofNat i))] [])) _
    refine XS.aloadN X0.here hexec rfl (hb hbytes d0) rfl rfl ?_
    exact Steps.refl _)
  obtain ⟨v2, T2, X2, E2, g2⟩ := X0.callV hexec (IsL.law l x 0 z) hown (wks W (virtW "java/lang/String" 492 "java/lang/String" IsL.yN IsL.yN)) rfl (by decide) (wk W IsL.tab) (W := 0) (Nat.le_of_ble_eq_true rfl) (Nat.le_of_ble_eq_true rfl) (Nat.le_refl _) (Nat.le_refl _) (hx0.1.fc X0.warmed.alike) hx0.1.is (g := (mkF m 1 #[.val (.ref x), .val (.int (Int32.ofNat i))] [.ref x])) rfl (by rw [hml]; rfl) c1 (argsL := []) (rest := []) rfl rfl (by show 2 * 0 + 0 ≤ _; decide) (hb hbytes d1) (⟨rfl, hx0.2.2.1, hx.2.2.2.2.1.cd, s1.there X0.warmed.alike hh0, hz⟩)
  obtain ⟨rfl, q2⟩ := E2
  have hh2 := q2.trans hh0
  have hx2 := hx.mv X2.warmed.alike hh2
  obtain ⟨-, k1, k2⟩ | ⟨k0, -⟩ := hx.2.2.2.2.1
  · have c3 : Steps p.tables e below (s₁.setTop (entryFrame m #[.ref x, .int (Int32.ofNat i)] 2)) (T2.setTop (mkF m 8 #[.val (.ref x), .val (.int (Int32.ofNat i))] [.ref x])) := Steps.trans g2 (by
      refine XS.ifNo X2.here hexec rfl (hb hbytes d4) rfl (i0_eq_f (by decide)) ?_
      refine XS.aloadN X2.here hexec rfl (hb hbytes d7) rfl rfl ?_
      exact Steps.refl _)
    obtain ⟨T4, X4, q4, st4⟩ := X2.hget hexec hown (wk W (.fieldLink "java/lang/String" 9 "java/lang/String" "value" "[B")) hx2.2.1 (g := (mkF m 8 #[.val (.ref x), .val (.int (Int32.ofNat i))] [.ref x])) rfl (rest := []) rfl (hb hbytes d8)
    have hh4 := q4.trans hh2
    have c5 : Steps p.tables e below (s₁.setTop (entryFrame m #[.ref x, .int (Int32.ofNat i)] 2)) (T4.setTop (mkF m 12 #[.val (.ref x), .val (.int (Int32.ofNat i))] [.int (Int32.ofNat i), .ref t])) := (c3.trans (st4 _ (Steps.refl _))).trans (by
      refine XS.iloadN X4.here hexec rfl (hb hbytes d11) rfl ?_
      exact Steps.refl _)
    obtain ⟨v6, T6, X6, E6, g6⟩ := X4.callS hexec (LChA.law l t V i (lo8 (f i)) fm) hown (wks W (staticW "java/lang/String" 495 LChA.yN)) (wk W LChA.tab) (W := 0) (Nat.le_of_ble_eq_true rfl) (Nat.le_of_ble_eq_true rfl) (Nat.le_refl _) (Nat.le_refl _) (g := (mkF m 12 #[.val (.ref x), .val (.int (Int32.ofNat i))] [.int (Int32.ofNat i), .ref t])) rfl (by rw [hml]; rfl) c5 (argsL := [.ref t, .int (Int32.ofNat i)]) (rest := []) rfl rfl (by show 2 * 0 + 0 ≤ _; decide) (hb hbytes d12) (⟨rfl, hx.2.2.2.1.mv X4.warmed.alike hh4, (k2 i hi).1, s3.there X4.warmed.alike hh4, rf⟩)
    obtain ⟨rfl, q6⟩ := E6
    rw [chr8_lo8 hr.1 (k2 i hi).2] at g6
    exact ⟨T6, some (.int (f i)), _, _, _, X6, rfl, rfl, rfl, (fun h => by cases h), ⟨rfl, q6.trans hh4⟩, fun fs hl => Steps.trans g6 (X6.ireturnOut hexec hret (narrow_ch hr.1 hr.2) (Or.inr (Or.inr (Or.inr (Or.inl rfl)))) (hb hbytes d15) hl)⟩
  · exact absurd k0 (by decide)
theorem pays {l : Launch} {R : Room} {p : Program} {e : Env} {below : List Frame} {s : State} {sargs : Array Value} {len W : Nat} (x t : Addr) (V : Cell) (n : Nat) (f : Nat → Int32) (z : Int32) (fm : Value) (i : Nat) (htab : tab.before sargs s = true) (hfr : 4 ≤ R.frames) (hlo : W + 53 ≤ R.locals) :
    Back l R p e below s sargs yN len W (fun A₁ a₁ => A₁.cells + 0 ≤ R.cells ∧ A₁.slots + 0 ≤ R.slots ∧ P x t V n f z fm i a₁ A₁.U) (fun A₁ _ v₁ B₁ => E f i v₁ A₁.U B₁.U ∧ B₁.locs = A₁.locs ++ [] ∧ B₁.cells = A₁.cells + 0 ∧ B₁.slots = A₁.slots + 0) :=
  (law l x t V n f z fm i).pays htab hfr (by omega)
end ChN
end StrChars
namespace StrChars.Road
open Jvm Sem ClassFile Op Lib Jvm.Stand Jvm.Free Jvm.Free.XT
open Jvm.Lib.Cold (StaticIs)
/-- the words of String.charAt(int), the Latin-1 road alone -/
abbrev wordsChN : List Jvm.Cond := [.code ChN.yN ChN.yB 2 (some .char), .initialized ST, .fieldLink ST 9 ST "value" "[B", .fieldLink ST 38 ST "COMPACT_STRINGS" "Z", .fieldLink ST 15 ST "coder" "B", .code IsL.yN IsL.yB 1 (some .boolean), .methodLink ST 492 IsL.yN, .declares IsL.yN, .selects ST IsL.yN IsL.yN, .instanceMethod IsL.yN,
  .methodLink ST 495 LChA.yN, .static LChA.yN, .code LChA.yN LChA.yB 2 (some .char), .initialized "java/lang/StringLatin1", .methodLink "java/lang/StringLatin1" 9 JO.Str_checkIndex.yN, .static JO.Str_checkIndex.yN, .code JO.Str_checkIndex.yN JO.Str_checkIndex.yB 2 none,
  .fieldLink ST 1053 "jdk/internal/util/Preconditions" "SIOOBE_FORMATTER" "Ljava/util/function/BiFunction;", .methodLink ST 1059 JC.PreCheck.yN, .static JC.PreCheck.yN, .code JC.PreCheck.yN JC.PreCheck.yB 3 (some .int), .initialized "jdk/internal/util/Preconditions"]
theorem tabChN_of {a : Array Value} {s : State} (h : ∀ w ∈ wordsChN, w.before a s = true) : ChN.tab.before a s = true := by
  have hp : JC.PreCheck.tab.before a s = true := unparts (wk h (.code JC.PreCheck.yN JC.PreCheck.yB 3 (some .int))) (wks h (.initialized JC.PreCheck.yN.cls :: JC.PreCheck.site))
  have qk := consq hp h
  have hk : JO.Str_checkIndex.tab.before a s = true := unparts (wk qk (.code JO.Str_checkIndex.yN JO.Str_checkIndex.yB 2 none)) (wks qk (.initialized JO.Str_checkIndex.yN.cls :: JO.Str_checkIndex.site))
  have ql := consq hk h
  have hl : LChA.tab.before a s = true := unparts (wk ql (.code LChA.yN LChA.yB 2 (some .char))) (wks ql (.initialized LChA.yN.cls :: LChA.site))
  have hi : IsL.tab.before a s = true := unparts (wk h (.code IsL.yN IsL.yB 1 (some .boolean))) (wks h (.initialized IsL.yN.cls :: IsL.site))
  have q := consq hi (consq hl h)
  exact unparts (wk q (.code ChN.yN ChN.yB 2 (some .char))) (wks q (.initialized ChN.yN.cls :: ChN.site))
theorem movedChN {Z s : State} {a0 args : Array Value} (hZ : Z.Warmed39 s.vm) (hw : ∀ d ∈ wordsChN, d.before a0 Z = true) : ∀ d ∈ wordsChN, d.before args s = true := fun d hd => by
  have t : ∀ d ∈ wordsChN, (d.onTables && d.keepsFace) = true := by decide +kernel
  exact RoadKit.mv hZ (hw d hd) (t d hd)
/-- **charAt(i) OF A LATIN-1 STRING**, i < n: the char -/
theorem chN {p : Program} {l : Launch} {e : Env} {R : Room} {s : State} {args : Array Value} {below : List Frame} {len W : Nat} {Z : State} {a0 : Array Value} {h : Heap} (hZ : Z.Warmed39 s.vm) (hw : ∀ d ∈ wordsChN, d.before a0 Z = true) {kI : Nat} (wi : (Jvm.Cond.instantiable ST kI).before a0 Z = true)
    {x t : Addr} {kb : ClassId} {cs : List Int32} {N2 z : Int32} {vs : List Value} {fm : Value} {i : Nat} {j : Int32} (E : RoadKit.Exa Z h x ST) (V : RoadKit.Fld Z h x ST "value" "[B" (.ref t)) (C : RoadKit.Fld Z h x ST "coder" "B" (.int 0)) (K : RoadKit.Arv Z h t kb .byte N2 vs (.int 0)) (hc : CodA cs 0 N2 vs) (hb : ∀ c ∈ cs, ¬ c < 0 ∧ ¬ (65535 : Int32) < c)
    (S : RoadKit.Sta Z h ST "COMPACT_STRINGS" "Z" (.int z)) (hz : ¬ z = 0) (F : RoadKit.Sta Z h "jdk/internal/util/Preconditions" "SIOOBE_FORMATTER" "Ljava/util/function/BiFunction;" fm) (rf : fm.isRef = true) (l2 : cs.length ≤ 4000) (hi : i < cs.length) (hj : j = Int32.ofNat i) (hfr : 4 ≤ R.frames) (hlo : W + 53 ≤ R.locals) :
    Back l R p e below s args (⟨"java/lang/String", "charAt", "(I)C"⟩ : MethodName) len W (fun P a => a = #[.ref x, .int j] ∧ P.U.heap = h ∧ P.cells + 0 ≤ R.cells ∧ P.slots + 0 ≤ R.slots)
      (fun P _ v B => ∃ L, (v = some (.int (cs.getD i 0)) ∧ L = [] ∧ B.U.heap = h) ∧ B.locs = P.locs ++ L ∧ B.cells = P.cells + 0 ∧ B.slots = P.slots + 0) := by
  subst hj
  intro m meth c P g ig mk a X hg hsize hdg hW hn hp'
  obtain ⟨rfl, rfl, r1, r2⟩ := hp'
  have al : Z.vm.Alike P.U.vm := hZ.alike.trans X.warmed.alike
  obtain ⟨A, hx⟩ := txt_of wi al E V C K hc hb l2
  obtain ⟨v, B, X', ⟨⟨hv, hh⟩, hl, hk, hs⟩, st⟩ := ChN.pays x t A cs.length (fun j => cs.getD j 0) z fm i (tabChN_of (movedChN hZ hw)) hfr hlo m meth c P g ig mk _ X hg hsize hdg hW hn ⟨r1, r2, rfl, hx, hi, sta_is al S, hz, sta_is al F, rf⟩
  exact ⟨v, B, X', ⟨[], ⟨hv, rfl, hh⟩, hl, hk, hs⟩, st⟩
/-- what backV says of its String, as the contracts of this text ask it: cs's low bytes, coder 0 -/
theorem codOf {cs : List Int32} {n : Nat} (hn : cs.length = n) (hb : ∀ c ∈ cs, ¬ 255 < c) : CodA cs 0 (Int32.ofNat n) ((cs.map lo8).map Value.int) := Or.inl ⟨rfl, by rw [hn], by simp [List.map_map, Function.comp_def], hb⟩
end StrChars.Road
end Jvm.Pilot.@@N@@

set_option maxRecDepth 65536
set_option maxHeartbeats 40000000
namespace Jvm.Pilot.@@N@@
open Jvm Jvm.ClassFile Sem Op Lib Jvm.Free Jvm.Stand Jvm.LawKit Jvm.RoadKit Bundle Jvm.Pilot.@@N@@.Jvm.D
def o_K (p : Program) (e : Env) (below : List Frame) (A B : State) : Prop := ∀ t, Steps p.tables e below A t → Steps p.tables e below B t
def o_J (p : Program) (e : Env) (below : List Frame) (T : State) (m : MethodId) (pc : Nat) (L : Array Slot) (S : List Value) (B : State) : Prop := ∀ t, Steps p.tables e below (T.setTop (mkF m pc L S)) t → Steps p.tables e below B t
theorem o_ifT_eq {x : Int32} (h : x = 0) : ifCond.holds .eq x = true := by simp [ifCond.holds, h]
theorem o_ifF_eq {x : Int32} (h : ¬ x = 0) : ifCond.holds .eq x = false := by simp [ifCond.holds, h]
theorem o_ifT_ne {x : Int32} (h : ¬ x = 0) : ifCond.holds .ne x = true := by simp [ifCond.holds, h]
theorem o_ifF_ne {x : Int32} (h : x = 0) : ifCond.holds .ne x = false := by simp [ifCond.holds, h]
theorem o_ifT_lt {x : Int32} (h : x < 0) : ifCond.holds .lt x = true := by simp [ifCond.holds, h]
theorem o_ifF_lt {x : Int32} (h : ¬ x < 0) : ifCond.holds .lt x = false := by simp [ifCond.holds, h]
theorem o_ifT_ge {x : Int32} (h : ¬ x < 0) : ifCond.holds .ge x = true := by simp [ifCond.holds, Int32.not_lt.mp h]
theorem o_ifF_ge {x : Int32} (h : x < 0) : ifCond.holds .ge x = false := by simp [ifCond.holds, Int32.not_le.mpr h]
theorem o_ifT_gt {x : Int32} (h : 0 < x) : ifCond.holds .gt x = true := by simp [ifCond.holds, h]
theorem o_ifF_gt {x : Int32} (h : ¬ 0 < x) : ifCond.holds .gt x = false := by simp [ifCond.holds, h]
theorem o_ifT_le {x : Int32} (h : ¬ 0 < x) : ifCond.holds .le x = true := by simp [ifCond.holds, Int32.not_lt.mp h]
theorem o_ifF_le {x : Int32} (h : 0 < x) : ifCond.holds .le x = false := by simp [ifCond.holds, Int32.not_le.mpr h]
theorem o_icT_eq {x y : Int32} (h : x = y) : if_icmp.holds .eq x y = true := by simp [if_icmp.holds, h]
theorem o_icF_eq {x y : Int32} (h : ¬ x = y) : if_icmp.holds .eq x y = false := by simp [if_icmp.holds, h]
theorem o_icT_ne {x y : Int32} (h : ¬ x = y) : if_icmp.holds .ne x y = true := by simp [if_icmp.holds, h]
theorem o_icF_ne {x y : Int32} (h : x = y) : if_icmp.holds .ne x y = false := by simp [if_icmp.holds, h]
theorem o_icT_lt {x y : Int32} (h : x < y) : if_icmp.holds .lt x y = true := by simp [if_icmp.holds, h]
theorem o_icF_lt {x y : Int32} (h : ¬ x < y) : if_icmp.holds .lt x y = false := by simp [if_icmp.holds, h]
theorem o_icT_ge {x y : Int32} (h : ¬ x < y) : if_icmp.holds .ge x y = true := by simp [if_icmp.holds, Int32.not_lt.mp h]
theorem o_icF_ge {x y : Int32} (h : x < y) : if_icmp.holds .ge x y = false := by simp [if_icmp.holds, Int32.not_le.mpr h]
theorem o_icT_gt {x y : Int32} (h : y < x) : if_icmp.holds .gt x y = true := by simp [if_icmp.holds, h]
theorem o_icF_gt {x y : Int32} (h : ¬ y < x) : if_icmp.holds .gt x y = false := by simp [if_icmp.holds, h]
theorem o_icT_le {x y : Int32} (h : ¬ y < x) : if_icmp.holds .le x y = true := by simp [if_icmp.holds, Int32.not_lt.mp h]
theorem o_icF_le {x y : Int32} (h : y < x) : if_icmp.holds .le x y = false := by simp [if_icmp.holds, Int32.not_le.mpr h]
theorem o_from {p : Program} {e : Env} {below : List Frame} {A B t : State} (h : B = A) (q : Steps p.tables e below B t) : Steps p.tables e below A t := h ▸ q
abbrev rO (f c s l : Nat) : Room := { frames := f, cells := c, slots := s, locals := l }
abbrev o_Met (l : Launch) (y : MethodName) (code : ByteArray) (ml : Nat) (ret : Option FieldType) (ws : List Jvm.Cond) (rm : Room) (as' : Array Value) (Z : State) (h0 : Heap) (Q : Option Value → Heap → List Loc → Prop) : Prop :=
  MetFree l y (head1 (Jvm.Cond.code y code ml ret :: ws) rm) (fun ar_ U => ar_ = as' ∧ Z.Warmed39 U.vm ∧ U.heap = h0) (fun _ _ _ _ _ => True) (fun _ U o U' => ∃ v L, o = .returned v ∧ Q v U'.heap L ∧ FrameEnd U o U' L rm.cells rm.slots)
theorem o_InsKeep {Z : State} {h h' : Heap} {b : Addr} {C : String} {bo : Bool} {ws : List Addr} (F : Ins Z h b C bo) (K : Keep h h' ws) (q : b ∉ ws) : Ins Z h' b C bo := by obtain ⟨cell, k, h1, r⟩ := F; exact ⟨cell, k, K.2.1 _ _ h1 q, r⟩
theorem o_l {a b : Nat} (h : Nat.ble a b = true) : a ≤ b := Nat.le_of_ble_eq_true h
theorem o_lt {a b : Nat} (h : Nat.ble (a + 1) b = true) : a < b := Nat.le_of_ble_eq_true h
theorem o_m0 {a : Addr} {P : Prop} : a ∈ [a] ∨ P := Or.inl (List.mem_of_getElem? (i := 0) rfl)
theorem wT {Z : State} {a0 : Array Value} (hw : ∀ d ∈ tables_1, d.before a0 Z = true) (i : Nat) {d : Jvm.Cond} (h : tables_1[i]? = some d) : d.before a0 Z = true := hw d (List.mem_of_getElem? h)
theorem o_mvNest {Z s : State} {a0 args : Array Value} {own host : String} {index : Nat} {y : MethodName} (hZ : Z.Warmed39 s.vm) (w : (Cond.methodLinkNest own index y host).before a0 Z = true) : (Cond.methodLinkNest own index y host).before args s = true := (Cond.methodLinkNest_wide hZ w :)
theorem o_pop2 {tb : Tables} [Ours tb] {e : Env} {below : List Frame} {T target : State} {m : MethodId} {c : Code} {g : JFrame} (h : At T m c below) (hx : tb.exec = Jvm.exec) (hg : g.method = m) {x : UInt64} {rest : List Value} (hd : decode c.code g.pc = .ok (.pop2, 1)) (hs : g.stack = .double x :: rest)
    (hr : Steps tb e below (T.setTop { g with pc := g.pc + 1, stack := rest }) target) : Steps tb e below (T.setTop g) target := by
  subst hg
  jvm_step h [h.top, hx, hd, hs, Value.category]
  exact hr
abbrev oV : String := "com/example/aggregate_lock/aggregatelock/outcome/VersionConflictException"
abbrev oS : String := "java/lang/String"
abbrev oA : String := "java/lang/AbstractStringBuilder"
abbrev oB : String := "java/lang/StringBuilder"
abbrev oL : String := "com/example/aggregate_lock/aggregatelock/outcome/AggregateLockException"
abbrev oT : String := "java/lang/Throwable"
abbrev oP : String := "com/example/aggregate_lock/aggregatelock/outcome/VersionConflictExceptionNeverCreatedPinLaw"
theorem o_w0 {a b : Nat} (h : 2 * 0 + a = b) : 2 * 0 + a ≤ b := Nat.le_of_eq h
abbrev vI (x : Int32) : Slot := .val (.int x)
abbrev vR (x : Addr) : Slot := .val (.ref x)
abbrev vL (x : Int64) : Slot := .val (.long x)
def o_Str (Z : State) (h : Heap) (a t : Addr) (kb : ClassId) (cs : List Int32) : Prop := Exa Z h a oS ∧ Fld Z h a oS "value" "[B" (.ref t) ∧ Fld Z h a oS "coder" "B" (.int 0) ∧ Arv Z h t kb .byte (Int32.ofNat cs.length) ((cs.map fun c => c.toInt8.toInt32).map Value.int) (.int 0)
theorem o_Str.ext {Z : State} {h h' : Heap} {a t : Addr} {kb : ClassId} {cs : List Int32} (S : o_Str Z h a t kb cs) (E : Ext h h') : o_Str Z h' a t kb cs := ⟨S.1.ext E, S.2.1.ext E, S.2.2.1.ext E, S.2.2.2.ext E⟩
theorem o_Str.keep {Z : State} {h h' : Heap} {ws : List Addr} {a t : Addr} {kb : ClassId} {cs : List Int32} (S : o_Str Z h a t kb cs) (K : Keep h h' ws) (q : a ∉ ws) (r : t ∉ ws) : o_Str Z h' a t kb cs := ⟨S.1.keep K, S.2.1.keep K q, S.2.2.1.keep K q, S.2.2.2.keep K r⟩
/-- a char of one byte -/
def o_b8 (c : Int32) : Prop := ¬ c < 0 ∧ ¬ (255 : Int32) < c
theorem o_b8.up {c : Int32} (h : o_b8 c) : ¬ c < 0 ∧ ¬ (65535 : Int32) < c := ⟨h.1, fun q => h.2 (by
  have q1 := Int32.lt_iff_toInt_lt.mp q
  rw [Int32.lt_iff_toInt_lt]
  rw [show (65535 : Int32).toInt = 65535 from rfl] at q1
  rw [show (255 : Int32).toInt = 255 from rfl]
  omega)⟩
theorem o_cod {cs : List Int32} (h : ∀ c ∈ cs, o_b8 c) : StrChars.Road.CodA cs 0 (Int32.ofNat cs.length) ((cs.map fun c => c.toInt8.toInt32).map Value.int) := StrChars.Road.codOf rfl fun c hc => (h c hc).2
theorem o_sub_words : ∀ d ∈ StrChars.Road.words, d ∈ tables_1 := by decide +kernel
theorem o_sub_wordsChN : ∀ d ∈ StrChars.Road.wordsChN, d ∈ tables_1 := by decide +kernel
theorem o_c16 {x : Int32} (h0 : 0 ≤ x.toInt) (h1 : x.toInt < 65536) : x.toUInt32.toUInt16.toUInt32.toInt32 = x := by
  have := c_i2c x
  apply Int32.toInt_inj.mp
  omega
theorem o_nar16 {x : Int32} (h0 : 0 ≤ x.toInt) (h1 : x.toInt < 65536) : nar .char x = x := o_c16 h0 h1
theorem o_nat32 {n : Nat} (h : n < 2147483648) : (Int32.ofNat n).toInt = n := Int32.toInt_ofNat_of_lt (by omega)
theorem o_natC {n : Nat} (h : n < 2147483648) : (Int32.ofNat n).toNatClampNeg = n := by
  have := o_nat32 h
  simp only [Int32.toNatClampNeg]; omega
theorem o_nneg {n : Nat} (h : n < 2147483648) : ¬ Int32.ofNat n < 0 := by
  rw [Int32.lt_iff_toInt_lt, o_nat32 h, show (0 : Int32).toInt = 0 from rfl]; omega
theorem o_lt32 {a b : Nat} (ha : a < 2147483648) (hb : b < 2147483648) : Int32.ofNat a < Int32.ofNat b ↔ a < b := by
  rw [Int32.lt_iff_toInt_lt, o_nat32 ha, o_nat32 hb]; omega
theorem o_ne32 {a b : Nat} (ha : a < 2147483648) (hb : b < 2147483648) (h : a ≠ b) : ¬ Int32.ofNat a = Int32.ofNat b := fun q => h (by
  have := congrArg Int32.toInt q
  rw [o_nat32 ha, o_nat32 hb] at this; omega)
theorem o_shl0 (x : Int32) : x <<< ((0 : Int32) &&& 31) = x := by
  have a := c_ishl x (0 : Int32) 0 (by decide)
  have r := rng32 x
  have r2 := rng32 (x <<< ((0 : Int32) &&& 31))
  apply Int32.toInt_inj.mp
  simp only [Nat.pow_zero, Nat.reducePow, Int.cast_ofNat_Int] at a
  omega
theorem o_shr0 (x : Int32) : x >>> ((0 : Int32) &&& 31) = x := by
  have a := c_ishr x (0 : Int32) 0 (by decide)
  apply Int32.toInt_inj.mp
  simp only [Nat.pow_zero, Nat.reducePow, Int.cast_ofNat_Int] at a
  omega
theorem o_addN {a b : Nat} : Int32.ofNat a + Int32.ofNat b = Int32.ofNat (a + b) := (Int32.ofNat_add a b).symm
theorem o_add2 {a : Nat} : Int32.ofNat a + (2 : Int32) = Int32.ofNat (a + 2) := (Int32.ofNat_add a 2).symm
theorem o_subN {a b : Nat} (h : b ≤ a) (ha : a < 2147483648) : Int32.ofNat a - Int32.ofNat b = Int32.ofNat (a - b) := by
  have q := c_isub (Int32.ofNat a) (Int32.ofNat b)
  have r := rng32 (Int32.ofNat a - Int32.ofNat b)
  have e1 := o_nat32 (n := a) ha
  have e2 := o_nat32 (n := b) (by omega)
  have e3 := o_nat32 (n := a - b) (by omega)
  apply Int32.toInt_inj.mp
  omega
theorem o_sub0 {x : Int32} : x - (0 : Int32) = x := by
  have q := c_isub x (0 : Int32)
  have r := rng32 (x - (0 : Int32))
  have r2 := rng32 x
  rw [show (0 : Int32).toInt = 0 from rfl] at q
  apply Int32.toInt_inj.mp
  omega
theorem o_sub_np {a b : Nat} (h : a ≤ b) (hb : b < 2147483648) : ¬ 0 < Int32.ofNat a - Int32.ofNat b := by
  have q := c_isub (Int32.ofNat a) (Int32.ofNat b)
  have r := rng32 (Int32.ofNat a - Int32.ofNat b)
  have e1 := o_nat32 (n := a) (by omega)
  have e2 := o_nat32 (n := b) hb
  rw [Int32.lt_iff_toInt_lt, show (0 : Int32).toInt = 0 from rfl]
  omega
theorem o_sub_p {a b : Nat} (h : b < a) (ha : a < 2147483648) : 0 < Int32.ofNat a - Int32.ofNat b := by
  rw [o_subN (by omega) ha, Int32.lt_iff_toInt_lt, o_nat32 (by omega), show (0 : Int32).toInt = 0 from rfl]
  omega
theorem o_pos0 {n : Nat} (h0 : 0 < n) (h : n < 2147483648) : (0 : Int32) < Int32.ofNat n := by
  rw [Int32.lt_iff_toInt_lt, o_nat32 h, show (0 : Int32).toInt = 0 from rfl]; omega
theorem o_smax {n : Nat} (h : n ≤ 1000) : ¬ (2147483639 : Int32) < Int32.ofNat n := by
  rw [Int32.lt_iff_toInt_lt, o_nat32 (by omega), show (2147483639 : Int32).toInt = 2147483639 from rfl]; omega
theorem o_nemax {n : Nat} (h : n ≤ 1000) : ¬ Int32.ofNat n = (2147483647 : Int32) := fun q => by
  have := congrArg Int32.toInt q
  rw [o_nat32 (by omega), show (2147483647 : Int32).toInt = 2147483647 from rfl] at this; omega
theorem o_maxT {x y : Nat} (hx : x ≤ 1000) (hy : y ≤ 1000) (h : Int32.ofNat x < Int32.ofNat y) : Int32.ofNat y = Int32.ofNat (max x y) := by
  rw [Nat.max_eq_right (Nat.le_of_lt ((o_lt32 (by omega) (by omega)).mp h))]
theorem o_maxF {x y : Nat} (hx : x ≤ 1000) (hy : y ≤ 1000) (h : ¬ Int32.ofNat x < Int32.ofNat y) : Int32.ofNat x = Int32.ofNat (max x y) := by
  rw [Nat.max_eq_left (Nat.le_of_not_lt fun q => h ((o_lt32 (by omega) (by omega)).mpr q))]
theorem o_minT {x y : Nat} (hx : x ≤ 1000) (hy : y ≤ 1000) (h : Int32.ofNat y < Int32.ofNat x) : Int32.ofNat y = Int32.ofNat (min x y) := by
  rw [Nat.min_eq_right (Nat.le_of_lt ((o_lt32 (by omega) (by omega)).mp h))]
theorem o_minF {x y : Nat} (hx : x ≤ 1000) (hy : y ≤ 1000) (h : ¬ Int32.ofNat y < Int32.ofNat x) : Int32.ofNat x = Int32.ofNat (min x y) := by
  rw [Nat.min_eq_left (Nat.le_of_not_lt fun q => h ((o_lt32 (by omega) (by omega)).mpr q))]
/-- the bytes of Latin-1 chars -/
def o_by (cs : List Int32) : List Value := (cs.map fun c => c.toInt8.toInt32).map Value.int
theorem o_by_len (cs : List Int32) : (o_by cs).length = cs.length := by simp [o_by]
theorem o_by_app (as bs : List Int32) : o_by (as ++ bs) = o_by as ++ o_by bs := by simp [o_by]
theorem o_us {ds : List Value} {d : Value} {k : Nat} (h : k ≤ ds.length) : ds.take k = (List.range k).map fun i => ds.getD (0 + i) d := by
  apply List.ext_getElem
  · rw [List.length_take, List.length_map, List.length_range]; omega
  · intro i h1 h2
    have h3 : i < ds.length := by rw [List.length_take] at h1; omega
    rw [List.getElem_take, List.getElem_map, List.getElem_range, Nat.zero_add, List.getD_eq_getElem?_getD, List.getElem?_eq_getElem h3]
    rfl
/-- the builder's capacity when m places are asked -/
def o_nc (cap m : Nat) : Nat := cap + max (m - cap) (cap + 2)
def o_cap (cap m : Nat) : Nat := if m ≤ cap then cap else o_nc cap m
theorem o_nc_lt {cap m : Nat} : cap < o_nc cap m := by unfold o_nc; omega
theorem o_nc_ge {cap m : Nat} : m ≤ o_nc cap m := by unfold o_nc; omega
theorem o_cap_ge {cap m : Nat} : m ≤ o_cap cap m := by
  unfold o_cap; split
  · assumption
  · exact o_nc_ge
theorem o_cap_le {cap m B : Nat} (h1 : m ≤ B) (h2 : 2 * cap + 2 ≤ B) : o_cap cap m ≤ B := by
  unfold o_cap; split
  · omega
  · unfold o_nc; omega
theorem o_cap_same {cap m : Nat} (h : m ≤ cap) : o_cap cap m = cap := if_pos h
theorem o_cap_sameB {cap m B : Nat} (h : m ≤ cap) (q : cap ≤ B) : o_cap cap m ≤ B := by rw [o_cap_same h]; exact q
theorem o_cap_grow {cap m : Nat} (h : ¬ m ≤ cap) : o_cap cap m = o_nc cap m := if_neg h
theorem o_cp_es {ds : List Value} {cap nc : Nat} {z : Value} (hl : ds.length = cap) (h : cap < nc) : ((List.replicate nc z).take 0 ++ ds.take cap ++ (List.replicate nc z).drop (0 + cap)).length = nc ∧ ((List.replicate nc z).take 0 ++ ds.take cap ++ (List.replicate nc z).drop (0 + cap)).take cap = ds := by
  subst hl
  rw [List.take_zero, List.nil_append, List.take_length, Nat.zero_add]
  refine ⟨?_, ?_⟩
  · rw [List.length_append, List.length_drop, List.length_replicate]; omega
  · rw [List.take_append_of_le_length (Nat.le_refl _), List.take_length]
theorem o_put_es {ds vs : List Value} {cap n N : Nat} (hl : ds.length = cap) (hv : vs.length = N) (h : n + N ≤ cap) : (ds.take n ++ vs.take N ++ ds.drop (n + N)).length = cap ∧ (ds.take n ++ vs.take N ++ ds.drop (n + N)).take (n + N) = ds.take n ++ vs := by
  subst hl hv
  rw [List.take_length]
  have e : (ds.take n ++ vs).length = n + vs.length := by rw [List.length_append, List.length_take]; omega
  refine ⟨?_, ?_⟩
  · rw [List.length_append, e, List.length_drop]; omega
  · rw [List.take_append_of_le_length (by omega), ← e, List.take_length]
theorem o_cr_es {ds : List Value} {n : Nat} {z : Value} : (List.replicate n z).take 0 ++ ds.take n ++ (List.replicate n z).drop (0 + n) = ds.take n := by
  rw [List.take_zero, List.nil_append, Nat.zero_add, List.drop_of_length_le (by rw [List.length_replicate]; omega), List.append_nil]
/-- two steps of an append: the place is made, then the bytes are put -/
theorem o_two {ds es fs vs : List Value} {cap nc n N : Nat} (hn : n ≤ cap) (h1 : es.length = nc ∧ es.take cap = ds) (h2 : fs.length = nc ∧ fs.take (n + N) = es.take n ++ vs) : fs.length = nc ∧ fs.take (n + N) = ds.take n ++ vs := by
  refine ⟨h2.1, ?_⟩
  rw [h2.2, ← h1.2, List.take_take, Nat.min_eq_left hn]
theorem o_chars {ds es : List Value} {cap c2 : Nat} {cs0 cs : List Int32} (h : ds.length = cap ∧ ds.take cs0.length = o_by cs0) (q : es.length = c2 ∧ es.take (cs0.length + cs.length) = ds.take cs0.length ++ o_by cs) : es.length = c2 ∧ es.take (cs0 ++ cs).length = o_by (cs0 ++ cs) := by
  refine ⟨q.1, ?_⟩
  rw [List.length_append, q.2, h.2, o_by_app]
theorem o_lenA (as bs : List Int32) : Int32.ofNat (as ++ bs).length = Int32.ofNat (as.length + bs.length) := by rw [List.length_append]
theorem o_ne_or {x u v : Addr} {k : Nat} (hx : x ≠ u) (hl : x < k) (h : v = u ∨ k ≤ v) : x ≠ v := fun q => h.elim (fun e => hx (q.trans e)) (fun e => absurd (q ▸ hl) (Nat.not_lt.mpr e))
theorem o_safe_or {Z : State} {EL : List (String × Nat)} {vm : Vm} {h : Heap} {u v : Addr} (S : Safe Z EL vm h u) (q : v = u ∨ h.size ≤ v) : Safe Z EL vm h v := q.elim (fun e => e ▸ S) (fun e => Safe.new (x := v) e)
theorem o_ge_or {u v : Addr} {n0 k : Nat} (g : n0 ≤ u) (z : n0 ≤ k) (q : v = u ∨ k ≤ v) : n0 ≤ v := q.elim (fun e => e ▸ g) (fun e => Nat.le_trans z e)
theorem o_selSelf {s : State} {args : Array Value} {C : String} {y : MethodName} (hs : (Cond.selects C y y).before args s = true) (hp : s.PrivateAt y) (hi : (Cond.instanceMethod y).before args s = true) (hy : y.cls ≠ "java/lang/invoke/MethodHandle" ∧ y.cls ≠ "java/lang/invoke/VarHandle") : (Cond.selects y.cls y y).before args s = true := by
  obtain ⟨c2, r2, m2, q1, q2, q3, q4, kP, hkP, hkPi⟩ := Cond.selects_spec hs
  exact selects_self_of_private (findClass_of_methodNamed q3) hkP hkPi hp hi hy
theorem o_notFace {args : Array Value} {s : State} {C : String} {y y' : MethodName} (hs : (Cond.selects C y' y').before args s = true) (hc : y'.cls = y.cls) : NotFace s y := fun r0 h0 => by
  obtain ⟨c2, r2, m2, q1, q2, q3, q4, kP, hkP, hkPi⟩ := Cond.selects_spec hs
  have h2 := findClass_of_methodNamed q3
  rw [hc, findClass_of_methodNamed h0] at h2
  exact ⟨kP, by rw [Option.some.inj h2]; exact hkP, hkPi⟩
theorem o_sameSelf {Z : State} {a0 : Array Value} {K : String} {y y' : MethodName} (hi : (Cond.instanceMethod y).before a0 Z = true) (hs : (Cond.selects K y' y').before a0 Z = true) (hy : y.cls ≠ "java/lang/invoke/MethodHandle" ∧ y.cls ≠ "java/lang/invoke/VarHandle") (hc : y'.cls = y.cls) : (Cond.sameMethod y.cls y.cls y.name y.desc).before a0 Z = true := by
  obtain ⟨mk, methM, hnamed, hmethM, -, -⟩ := Cond.instanceMethod_spec hi
  have hfound : Z.methodFound? y.cls y.name y.desc = some mk := State.methodFound?_of_named hnamed hy
  have hcls := findClass_of_methodNamed hnamed
  obtain ⟨c2, r2, m2, q1, q2, q3, q4, kP, hkP, hkPi⟩ := Cond.selects_spec hs
  have h2 := findClass_of_methodNamed q3
  rw [hc, hcls] at h2
  have h3 : mk.cls = m2.cls := Option.some.inj h2
  have h4 : Z.methodNamed? ⟨y.cls, y.name, y.desc⟩ = some mk := hnamed
  simp only [Cond.before, Cond.holds, Cond.value, hcls, hfound, h4, h3, hkP]
  simp [hkPi]
/-- System.arraycopy of bytes, from place 0 on -/
theorem o_cp {p : Program} {l : Launch} {e : Env} {R : Room} {s : State} {m : MethodId} {args : Array Value} {below : List Frame} {meth : Method} {c : Code} {T : State} {locs : List Loc} {cells slots : Nat} {Z : State} {h : Heap}
    (X : Stand p l e R s m args below meth c T locs cells slots) (hx : p.tables.exec = Jvm.exec) (hZ : Z.Warmed39 s.vm) {a0 : Array Value} {own : String} {index : Nat} (hown : s.vm.findClass own = some m.cls)
    (w1 : (Cond.methodLink own index Jvm.Stand.acN).before a0 Z = true) (w2 : (Cond.native Jvm.Stand.acN).before a0 Z = true) (w3 : (Cond.static Jvm.Stand.acN).before a0 Z = true) (w4 : (Cond.initialized "java/lang/System").before a0 Z = true) (eT : T.heap = h)
    {a b : Addr} {k k' : ClassId} {zs zd dp nn : Nat} {vs vd : List Value} {dv dd : Value} {dp' : Int32} (A : Arv Z h a k .byte (Int32.ofNat zs) vs dv) (B : Arv Z h b k' .byte (Int32.ofNat zd) vd dd) (hdp : dp' = Int32.ofNat dp)
    (hnn : nn ≤ zs) (hfit : dp + nn ≤ zd) (hzs : zs ≤ 1000) (hzd : zd ≤ 1000) (hvs : zs ≤ vs.length) (hvd : vd.length = zd) {n0 : Nat} (N : Fr n0 locs) (ge : n0 ≤ b)
    {g : JFrame} (hg : g.method = m) (hsize : g.locals.size = c.maxLocals) {rest : List Value} (hs : g.stack = .int (Int32.ofNat nn) :: .int dp' :: .ref b :: .int (0 : Int32) :: .ref a :: rest) (hd : decode c.code g.pc = .ok (.invokestatic index, 3))
    (hf : 1 ≤ R.frames) {W : Nat} (hW : 2 * g.monitorRoom + (rest.map fun v => v.category).sum ≤ W) (hlo : W + 18 ≤ R.locals) :
    ∃ T' h' L, Stand p l e R s m args below meth c T' L cells slots ∧ T'.heap = h' ∧ Fr n0 L ∧ Keep h h' [b] ∧ Arv Z h' b k' .byte (Int32.ofNat zd) (vd.take dp ++ vs.take nn ++ vd.drop (dp + nn)) dd ∧
      ∀ target, Steps p.tables e below (T'.setTop { g with pc := g.pc + 3, stack := rest }) target → Steps p.tables e below (T.setTop g) target := by
  subst hdp
  have e1 := o_natC (n := nn) (by omega)
  have e2 := o_natC (n := dp) (by omega)
  have e3 := o_natC (n := zs) (by omega)
  have e4 := o_natC (n := zd) (by omega)
  have e5 : (0 : Int32).toNatClampNeg = 0 := rfl
  obtain ⟨T', h', L, X', q1, q2, q3, q4, st⟩ := cpA X hx hZ hown w1 w2 w3 w4 eT A B (Or.inl ⟨rfl, rfl⟩) (by decide) (o_nneg (by omega)) (o_nneg (by omega)) (by rw [e1, e3, e5]; omega) (by rw [e1, e2, e4]; exact hfit) (us := vs.take nn) (by rw [e1, e5]; exact o_us (by omega)) (by rw [e1, e2, hvd]; exact hfit) N ge hg hsize hs hd hf hW (by rw [nativeFrameWords_plain 5 (by decide)]; exact hlo)
  rw [e1, e2] at q4
  exact ⟨T', h', L, X', q1, q2, q3, q4, st⟩
/-- a byte[] cloned -/
theorem o_cl {p : Program} {l : Launch} {e : Env} {R : Room} {s : State} {m : MethodId} {args : Array Value} {below : List Frame} {meth : Method} {c : Code} {T : State} {locs : List Loc} {cells slots : Nat} {Z : State} {h : Heap}
    (X : Stand p l e R s m args below meth c T locs cells slots) (hx : p.tables.exec = Jvm.exec) (hZ : Z.Warmed39 s.vm) {a0 : Array Value} {own ad : String} {index : Nat} (hown : s.vm.findClass own = some m.cls)
    (w1 : (Cond.methodLink own index ⟨ad, "clone", "()Ljava/lang/Object;"⟩).before a0 Z = true) (w2 : (Cond.sameMethod ad "java/lang/Object" "clone" "()Ljava/lang/Object;").before a0 Z = true) (w3 : (Cond.native ⟨"java/lang/Object", "clone", "()Ljava/lang/Object;"⟩).before a0 Z = true)
    (w4 : (Cond.instanceMethod ⟨"java/lang/Object", "clone", "()Ljava/lang/Object;"⟩).before a0 Z = true) (w5 : (Cond.selects ad ⟨ad, "clone", "()Ljava/lang/Object;"⟩ ⟨"java/lang/Object", "clone", "()Ljava/lang/Object;"⟩).before a0 Z = true) (w6 : (Cond.castable ad "java/lang/Cloneable").before a0 Z = true)
    (eT : T.heap = h) {a : Addr} {k : ClassId} {ty : FieldType} {z : Int32} {vs : List Value} {dv : Value} (F : Arv Z h a k ty z vs dv) (E : Exa Z h a ad) {g : JFrame} (hg : g.method = m) (hsize : g.locals.size = c.maxLocals) {rest : List Value} (hst : g.stack = .ref a :: rest) (hd : decode c.code g.pc = .ok (.invokevirtual index, 3))
    (hf : 1 ≤ R.frames) {W cap : Nat} (hW : 2 * g.monitorRoom + (rest.map fun v => v.category).sum ≤ W) (hl : W + 14 ≤ R.locals) (hcap : z.toNatClampNeg ≤ cap) (hc : cells + 1 ≤ R.cells) (hsl : slots + cap ≤ R.slots) :
    ∃ T' h', Stand p l e R s m args below meth c T' locs (cells + 1) (slots + cap) ∧ T'.heap = h' ∧ Ext h h' ∧ Arv Z h' h.size k ty z vs dv ∧ Exa Z h' h.size ad ∧
      ∀ target, Steps p.tables e below (T'.setTop { g with pc := g.pc + 3, stack := .ref h.size :: rest }) target → Steps p.tables e below (T.setTop g) target := by
  obtain ⟨cl, A, q1, S, q3, H, G⟩ := F
  have FC : FitC Z cl := fitC_of A fun i hi v hv => by rw [H i hi] at hv; cases hv; exact G i hi
  obtain ⟨T', h', X', e', ex, A', E', st⟩ := cloneA X hx hZ hown w1 w2 w3 w4 w5 w6 eT A E FC hg hsize hst hd hf hW hl (by rw [S]; exact hcap) hc hsl
  exact ⟨T', h', X', e', ex, ⟨cloneOf cl, A', q1, S, q3, H, G⟩, E', st⟩
theorem o_safeNew {Z : State} {EL : List (String × Nat)} {vm : Vm} {h : Heap} {x : Addr} (C : CHv Z EL vm h) (q : h.size ≤ x) : Safe Z EL vm h x := Safe.new (x := x) q
/-- invokestatic through a subclass's name, of a callee that may intern -/
theorem o_callSSU {p : Program} {l : Launch} {e : Env} {R : Room} {s : State} {m : MethodId} {args : Array Value} {below : List Frame} {meth : Method} {c : Code} {T : State} {locs : List Loc} {cells slots : Nat}
    (X : Stand p l e R s m args below meth c T locs cells slots) (hx : p.tables.exec = Jvm.exec) {own owner : String} {index : Nat} {x : MethodName} {bytes : ByteArray} {maxL : Nat} {ret : Option FieldType}
    (hown : s.vm.findClass own = some m.cls) (hlink : (Cond.methodLink own index x).before args s = true) (hsame : (Cond.sameMethod x.cls owner x.name x.desc).before args s = true) (hstat : (Cond.static ⟨owner, x.name, x.desc⟩).before args s = true) (hinit : (Cond.initialized owner).before args s = true) (hcode : (Cond.code ⟨owner, x.name, x.desc⟩ bytes maxL ret).before args s = true)
    (howner : owner ≠ "java/lang/invoke/MethodHandle" ∧ owner ≠ "java/lang/invoke/VarHandle") {W : Nat} {Pre : Pt → Array Value → Prop} {Post : Pt → Array Value → Option Value → Pt → Prop} (hK : BackS l R p e below s args ⟨owner, x.name, x.desc⟩ 3 W Pre Post)
    {g : JFrame} (hg : g.method = m) (hsize : g.locals.size = c.maxLocals) {argsL rest : List Value} (hlen : ∀ sig, parseMethodDescriptor x.desc = some sig → argsL.length = sig.parameters.length) (hstack : g.stack = argsL.reverse ++ rest) (hW : 2 * g.monitorRoom + (rest.map fun v => v.category).sum ≤ W)
    (hdg : decode c.code g.pc = .ok (.invokestatic index, 3)) (hpre : ∀ vm₁, s.WarmedH vm₁ → Pre ⟨T.setVm vm₁, locs, cells, slots⟩ argsL.toArray) :
    ∃ (v : Option Value) (vm₁ : Vm) (B : Pt), s.WarmedH vm₁ ∧ Stand p l e R (s.setVm B.U.vm) m args below meth c B.U B.locs B.cells B.slots ∧ s.Since B.U.vm B.U.heap.size ∧ T.heap.size ≤ B.U.heap.size ∧ Post ⟨T.setVm vm₁, locs, cells, slots⟩ argsL.toArray v B ∧
      Steps p.tables e below (T.setTop g) (B.U.setTop { g with pc := g.pc + 3, stack := v.toList ++ rest }) := by
  obtain ⟨mk, hnamed⟩ := Cond.code_named hcode
  obtain ⟨methM, cM, hmethM, -, -, -, -, -, -, hsig⟩ := Cond.code_spec hnamed hcode
  have hstatic : methM.isStatic = true := Cond.static_spec hnamed hmethM hstat
  obtain ⟨kP, hkP, -⟩ := className_of_methodNamed hnamed
  have hinitP : kP.init = .initialized := Cond.initialized_spec (findClass_of_methodNamed hnamed) hkP hinit
  obtain ⟨vm₁, X₁, hstep₁⟩ := X.invokestaticUp hx hown hlink hsame howner hnamed hmethM hstatic hkP hinitP (g := g) hg (argsL := argsL) (rest := rest) (hlen _ hsig) hstack hdg
  obtain ⟨v, B, X', hS, hgr, hpost, hsteps⟩ := hK m meth c ⟨T.setVm vm₁, locs, cells, slots⟩ { g with stack := rest } (.invokestatic index) mk argsL.toArray X₁ hg hsize hdg hW (X₁.named hnamed) (hpre vm₁ X₁.warmed)
  exact ⟨v, vm₁, B, X₁.warmed, X', hS, hgr, hpost, (hstep₁ _ fun acts => by rw [doInvoke_state]; exact Steps.refl _).trans hsteps⟩

/-- a String whose value is null yet is no literal's -/
theorem o_safe_null {Z : State} {EL : List (String × Nat)} {vm : Vm} {h : Heap} {x : Addr} (hal : Z.vm.Alike vm) (E : Exa Z h x oS) (F : Fld Z h x oS "value" "[B" .null) : Safe Z EL vm h x := fun B => by
  obtain ⟨p, hp, u, a, hb, q, hq, S, hy⟩ := B
  have hd := S.hd
  obtain ⟨cS, ⟨⟨s1, s2, s3, ⟨cv, kv, iv, s4, s4'⟩, ⟨cc, kc, ic, s5, s5'⟩, s6, s7, s8, s9, s10, s11, s12, s13, s14, s15, s16⟩, hfS, hcS⟩, ⟨kS, k1, k2, k3⟩, hB, hbyt⟩ := S
  rcases hy with e1 | e1
  · obtain ⟨kv', z4⟩ := ff_back (U := Wst Z vm h) hal s4
    have G : Fld Z h q.sa oS "value" "[B" (.ref q.sd) := ⟨q.sC, cv, kv', iv, q.fSV, s1, z4, s6, s2, s3, by rw [← hal.assignable]; exact s4', s8⟩
    exact Fld.ne F G (by simp) e1
  · obtain ⟨cell, k, e2, e3, e4, -⟩ := E
    rw [e1] at e2
    have hd' : h[q.sd]? = some q.SA := hd
    cases e2.symm.trans hd'
    have hB' : vm.findClass "[B" = some q.SA.cls := hB
    rw [hal.findClass] at hB'
    exact ids_ne e3 hB' (by decide) rfl

theorem o_strAtoms {Z : State} {a0 : Array Value} (hw : ∀ d ∈ tables_1, d.before a0 Z = true) : ∀ a ∈ Bundle.stringAtoms, a.before a0 Z = true := by
  intro a ha
  simp only [Bundle.stringAtoms, List.mem_cons, List.not_mem_nil, or_false] at ha
  rcases ha with rfl | rfl | rfl | rfl | rfl | rfl | rfl
  · exact hw _ (List.mem_of_getElem? (i := 6) rfl)
  · exact hw _ (List.mem_of_getElem? (i := 5) rfl)
  · exact hw _ (List.mem_of_getElem? (i := 19) rfl)
  · exact hw _ (List.mem_of_getElem? (i := 20) rfl)
  · exact hw _ (List.mem_of_getElem? (i := 21) rfl)
  · exact hw _ (List.mem_of_getElem? (i := 22) rfl)
  · exact hw _ (List.mem_of_getElem? (i := 23) rfl)
def o_EL : List (String × Nat) := [(oL, 41), (oL, 49), (oL, 51), (oL, 53), (oV, 95), (oV, 107), (oV, 109), (oS, 7)]
theorem o_EW {Z : State} {a0 : Array Value} (hw : ∀ d ∈ tables_1, d.before a0 Z = true) : EW Z a0 o_EL := (EW.cons (wT hw 35 rfl) (by decide) (EW.cons (wT hw 40 rfl) (by decide) (EW.cons (wT hw 65 rfl) (by decide) (EW.cons (wT hw 137 rfl) (by decide) (EW.cons (wT hw 178 rfl) (by decide) (EW.cons (wT hw 397 rfl) (by decide) (EW.cons (wT hw 182 rfl) (by decide) (EW.cons (wT hw 18 rfl) (by decide) EW.nil))))))))
def Q_rmMax (Z : State) (xa : Nat) (ya : Nat) (h0 : Heap) (n0 : Nat) (v : Option Value) (h : Heap) (L : List Loc) : Prop := v = some (.int (Int32.ofNat (max xa ya))) ∧ Fr n0 L ∧ h = h0
theorem o_h1 : plainFor (⟨"java/lang/Math", "max", "(II)I"⟩ : MethodName) = true := by decide +kernel
theorem o_h2 : decode jdk_29_method_65_code 0 = .ok (.iload_n 0, 1) := by decide +kernel
theorem o_h3 : decode jdk_29_method_65_code 1 = .ok (.iload_n 1, 1) := by decide +kernel
theorem o_h4 : decode jdk_29_method_65_code 2 = .ok (.if_icmp .lt 7, 3) := by decide +kernel
theorem o_h5 : decode jdk_29_method_65_code 9 = .ok (.iload_n 1, 1) := by decide +kernel
theorem o_h6 : decode jdk_29_method_65_code 10 = .ok (.ireturn, 1) := by decide +kernel
theorem o_h7 : decode jdk_29_method_65_code 5 = .ok (.iload_n 0, 1) := by decide +kernel
theorem o_h8 : decode jdk_29_method_65_code 6 = .ok (.goto 4, 3) := by decide +kernel
theorem rmMax (l : Launch) (Z : State) (a0 : Array Value) (hw : ∀ d ∈ tables_1, d.before a0 Z = true) (ws : List Jvm.Cond) (xa : Nat) (ya : Nat) (h0 : Heap) (n0 : Nat) (Z0 : n0 ≤ h0.size) (hxa : xa ≤ 1000) (hya : ya ≤ 1000)  :
    o_Met l (⟨"java/lang/Math", "max", "(II)I"⟩ : MethodName) jdk_29_method_65_code 2 (some .int) ws (rO 0 0 0 0) #[(.int (Int32.ofNat xa)), (.int (Int32.ofNat ya))] Z h0 (Q_rmMax Z xa ya h0 n0) := by
 refine MetFree.of_bodySF o_h1 hisR ?_
 intro p e s m args below meth c s₁ Bd hml0 hP hK
 obtain ⟨rfl, hZ, hh⟩ := hP
 have hx := Bd.exec
 have hby := Bd.bytes
 have hml : c.maxLocals = 2 := hml0
 have hown : s.vm.findClass "java/lang/Math" = some m.cls := findClass_of_methodNamed Bd.named
 have hnm := (name_of_methodNamed Bd.named Bd.method).1
 have X0 : Stand p l e (rO 0 0 0 0) s m #[(.int (Int32.ofNat xa)), (.int (Int32.ofNat ya))] below meth c s₁ [] 0 0 := Stand.of_body Bd
 have e0 : s₁.heap = h0 := by rw [← hh, Bd.state]; rfl
 have N0 := Fr.nil n0
 obtain ⟨B_, hB_⟩ : ∃ z, z = s₁.setTop (entryFrame m #[(.int (Int32.ofNat xa)), (.int (Int32.ofNat ya))] 2) := ⟨_, rfl⟩
 have k0 : o_K p e below (s₁.setTop (mkF m 0 #[.val (.int (Int32.ofNat xa)), .val (.int (Int32.ofNat ya))] [])) B_ := by rw [hB_]; exact fun t k => castTop (by clear k; first | (simp [entryFrame, mkF, argsToLocals, Value.category, maxLocals]; done) | rfl) k
 have k1 : o_J p e below s₁ m 2 #[vI (Int32.ofNat xa), vI (Int32.ofNat ya)] [(.int (Int32.ofNat ya)), (.int (Int32.ofNat xa))] B_ := fun t_ hh => k0 t_ (by
  refine XS.iloadN X0.here hx rfl (hb hby o_h2) rfl ?_
  refine XS.iloadN X0.here hx rfl (hb hby o_h3) rfl ?_
  exact hh)
 by_cases c2 : (Int32.ofNat xa) < (Int32.ofNat ya)
 ·
  have k2 : o_J p e below s₁ m 10 #[vI (Int32.ofNat xa), vI (Int32.ofNat ya)] [(.int (Int32.ofNat ya))] B_ := fun t_ hh => k1 t_ (by
   refine XS.icmpYes X0.here hx rfl (pc0 := 2) (pc' := 9) rfl (hb hby o_h4) rfl (o_icT_lt c2) (by decide) (by decide) ?_
   refine XS.iloadN X0.here hx rfl (hb hby o_h5) rfl ?_
   exact hh)
  clear k1
  obtain ⟨fs, hr, hrun, hended, hW, hsame⟩ := X0.leave (v := some (.int (Int32.ofNat ya))) (fun h => by rw [Bd.returns] at h; cases h)
  refine ⟨_, _, (o_from hB_ (k2 _ (retOut X0 hx (t := .int) Bd.returns rfl (Or.inl ⟨rfl, (by simp), _, rfl⟩) (hb hby o_h6) hr))), hrun, hended, _, _, rfl, ?_, ⟨_, rfl⟩, hW, hsame.mono (o_l rfl) (o_l rfl)⟩
  show Q_rmMax Z xa ya h0 n0 _ s₁.heap _
  rw [e0]
  exact ⟨(congrArg (fun z => some (Value.int z)) (o_maxT hxa hya c2)), N0, rfl⟩
 ·
  have k3 : o_J p e below s₁ m 10 #[vI (Int32.ofNat xa), vI (Int32.ofNat ya)] [(.int (Int32.ofNat xa))] B_ := fun t_ hh => k1 t_ (by
   refine XS.icmpNo X0.here hx rfl (hb hby o_h4) rfl (o_icF_lt c2) ?_
   refine XS.iloadN X0.here hx rfl (hb hby o_h7) rfl ?_
   refine XS.goto X0.here hx rfl (pc0 := 6) (pc' := 10) rfl (hb hby o_h8) (by decide) (by decide) ?_
   exact hh)
  clear k1
  obtain ⟨fs, hr, hrun, hended, hW, hsame⟩ := X0.leave (v := some (.int (Int32.ofNat xa))) (fun h => by rw [Bd.returns] at h; cases h)
  refine ⟨_, _, (o_from hB_ (k3 _ (retOut X0 hx (t := .int) Bd.returns rfl (Or.inl ⟨rfl, (by simp), _, rfl⟩) (hb hby o_h6) hr))), hrun, hended, _, _, rfl, ?_, ⟨_, rfl⟩, hW, hsame.mono (o_l rfl) (o_l rfl)⟩
  show Q_rmMax Z xa ya h0 n0 _ s₁.heap _
  rw [e0]
  exact ⟨(congrArg (fun z => some (Value.int z)) (o_maxF hxa hya c2)), N0, rfl⟩
def Q_rmMin (Z : State) (xa : Nat) (ya : Nat) (h0 : Heap) (n0 : Nat) (v : Option Value) (h : Heap) (L : List Loc) : Prop := v = some (.int (Int32.ofNat (min xa ya))) ∧ Fr n0 L ∧ h = h0
theorem o_h9 : plainFor (⟨"java/lang/Math", "min", "(II)I"⟩ : MethodName) = true := by decide +kernel
theorem o_h10 : decode jdk_29_method_69_code 0 = .ok (.iload_n 0, 1) := by decide +kernel
theorem o_h11 : decode jdk_29_method_69_code 1 = .ok (.iload_n 1, 1) := by decide +kernel
theorem o_h12 : decode jdk_29_method_69_code 2 = .ok (.if_icmp .gt 7, 3) := by decide +kernel
theorem o_h13 : decode jdk_29_method_69_code 9 = .ok (.iload_n 1, 1) := by decide +kernel
theorem o_h14 : decode jdk_29_method_69_code 10 = .ok (.ireturn, 1) := by decide +kernel
theorem o_h15 : decode jdk_29_method_69_code 5 = .ok (.iload_n 0, 1) := by decide +kernel
theorem o_h16 : decode jdk_29_method_69_code 6 = .ok (.goto 4, 3) := by decide +kernel
theorem rmMin (l : Launch) (Z : State) (a0 : Array Value) (hw : ∀ d ∈ tables_1, d.before a0 Z = true) (ws : List Jvm.Cond) (xa : Nat) (ya : Nat) (h0 : Heap) (n0 : Nat) (Z0 : n0 ≤ h0.size) (hxa : xa ≤ 1000) (hya : ya ≤ 1000)  :
    o_Met l (⟨"java/lang/Math", "min", "(II)I"⟩ : MethodName) jdk_29_method_69_code 2 (some .int) ws (rO 0 0 0 0) #[(.int (Int32.ofNat xa)), (.int (Int32.ofNat ya))] Z h0 (Q_rmMin Z xa ya h0 n0) := by
 refine MetFree.of_bodySF o_h9 hisR ?_
 intro p e s m args below meth c s₁ Bd hml0 hP hK
 obtain ⟨rfl, hZ, hh⟩ := hP
 have hx := Bd.exec
 have hby := Bd.bytes
 have hml : c.maxLocals = 2 := hml0
 have hown : s.vm.findClass "java/lang/Math" = some m.cls := findClass_of_methodNamed Bd.named
 have hnm := (name_of_methodNamed Bd.named Bd.method).1
 have X0 : Stand p l e (rO 0 0 0 0) s m #[(.int (Int32.ofNat xa)), (.int (Int32.ofNat ya))] below meth c s₁ [] 0 0 := Stand.of_body Bd
 have e0 : s₁.heap = h0 := by rw [← hh, Bd.state]; rfl
 have N0 := Fr.nil n0
 obtain ⟨B_, hB_⟩ : ∃ z, z = s₁.setTop (entryFrame m #[(.int (Int32.ofNat xa)), (.int (Int32.ofNat ya))] 2) := ⟨_, rfl⟩
 have k0 : o_K p e below (s₁.setTop (mkF m 0 #[.val (.int (Int32.ofNat xa)), .val (.int (Int32.ofNat ya))] [])) B_ := by rw [hB_]; exact fun t k => castTop (by clear k; first | (simp [entryFrame, mkF, argsToLocals, Value.category, maxLocals]; done) | rfl) k
 have k1 : o_J p e below s₁ m 2 #[vI (Int32.ofNat xa), vI (Int32.ofNat ya)] [(.int (Int32.ofNat ya)), (.int (Int32.ofNat xa))] B_ := fun t_ hh => k0 t_ (by
  refine XS.iloadN X0.here hx rfl (hb hby o_h10) rfl ?_
  refine XS.iloadN X0.here hx rfl (hb hby o_h11) rfl ?_
  exact hh)
 by_cases c2 : (Int32.ofNat ya) < (Int32.ofNat xa)
 ·
  have k2 : o_J p e below s₁ m 10 #[vI (Int32.ofNat xa), vI (Int32.ofNat ya)] [(.int (Int32.ofNat ya))] B_ := fun t_ hh => k1 t_ (by
   refine XS.icmpYes X0.here hx rfl (pc0 := 2) (pc' := 9) rfl (hb hby o_h12) rfl (o_icT_gt c2) (by decide) (by decide) ?_
   refine XS.iloadN X0.here hx rfl (hb hby o_h13) rfl ?_
   exact hh)
  clear k1
  obtain ⟨fs, hr, hrun, hended, hW, hsame⟩ := X0.leave (v := some (.int (Int32.ofNat ya))) (fun h => by rw [Bd.returns] at h; cases h)
  refine ⟨_, _, (o_from hB_ (k2 _ (retOut X0 hx (t := .int) Bd.returns rfl (Or.inl ⟨rfl, (by simp), _, rfl⟩) (hb hby o_h14) hr))), hrun, hended, _, _, rfl, ?_, ⟨_, rfl⟩, hW, hsame.mono (o_l rfl) (o_l rfl)⟩
  show Q_rmMin Z xa ya h0 n0 _ s₁.heap _
  rw [e0]
  exact ⟨(congrArg (fun z => some (Value.int z)) (o_minT hxa hya c2)), N0, rfl⟩
 ·
  have k3 : o_J p e below s₁ m 10 #[vI (Int32.ofNat xa), vI (Int32.ofNat ya)] [(.int (Int32.ofNat xa))] B_ := fun t_ hh => k1 t_ (by
   refine XS.icmpNo X0.here hx rfl (hb hby o_h12) rfl (o_icF_gt c2) ?_
   refine XS.iloadN X0.here hx rfl (hb hby o_h15) rfl ?_
   refine XS.goto X0.here hx rfl (pc0 := 6) (pc' := 10) rfl (hb hby o_h16) (by decide) (by decide) ?_
   exact hh)
  clear k1
  obtain ⟨fs, hr, hrun, hended, hW, hsame⟩ := X0.leave (v := some (.int (Int32.ofNat xa))) (fun h => by rw [Bd.returns] at h; cases h)
  refine ⟨_, _, (o_from hB_ (k3 _ (retOut X0 hx (t := .int) Bd.returns rfl (Or.inl ⟨rfl, (by simp), _, rfl⟩) (hb hby o_h14) hr))), hrun, hended, _, _, rfl, ?_, ⟨_, rfl⟩, hW, hsame.mono (o_l rfl) (o_l rfl)⟩
  show Q_rmMin Z xa ya h0 n0 _ s₁.heap _
  rw [e0]
  exact ⟨(congrArg (fun z => some (Value.int z)) (o_minF hxa hya c2)), N0, rfl⟩
def Q_rmNl (Z : State) (o : Nat) (gr : Nat) (pr : Nat) (h0 : Heap) (n0 : Nat) (v : Option Value) (h : Heap) (L : List Loc) : Prop := v = some (.int (Int32.ofNat (o + max gr pr))) ∧ Fr n0 L ∧ h = h0
theorem o_h17 : plainName "jdk/internal/util/ArraysSupport" = true := by first | (simp [plainName, overriddenIn]; done) | decide +kernel
theorem o_h18 : decode jdk_48_method_27_code 0 = .ok (.iload_n 0, 1) := by decide +kernel
theorem o_h19 : decode jdk_48_method_27_code 1 = .ok (.iload_n 1, 1) := by decide +kernel
theorem o_h20 : decode jdk_48_method_27_code 2 = .ok (.iload_n 2, 1) := by decide +kernel
theorem o_h21 : decode jdk_48_method_27_code 3 = .ok (.invokestatic 194, 3) := by decide +kernel
theorem o_h22 : parseMethodDescriptor "(II)I" = some ⟨[.int, .int], some .int⟩ := by decide +kernel
theorem o_h23 : decode jdk_48_method_27_code 6 = .ok (.iadd, 1) := by decide +kernel
theorem o_h24 : decode jdk_48_method_27_code 7 = .ok (.istore_n 3, 1) := by decide +kernel
theorem o_h25 : decode jdk_48_method_27_code 8 = .ok (.iconst 0, 1) := by decide +kernel
theorem o_h26 : decode jdk_48_method_27_code 9 = .ok (.iload_n 3, 1) := by decide +kernel
theorem o_h27 : decode jdk_48_method_27_code 10 = .ok (.if_icmp .ge 11, 3) := by decide +kernel
theorem o_h28 : decode jdk_48_method_27_code 13 = .ok (.iload_n 3, 1) := by decide +kernel
theorem o_h29 : decode jdk_48_method_27_code 14 = .ok (.ldc 200, 2) := by decide +kernel
theorem o_h30 : decode jdk_48_method_27_code 16 = .ok (.if_icmp .gt 5, 3) := by decide +kernel
theorem o_h31 : decode jdk_48_method_27_code 19 = .ok (.iload_n 3, 1) := by decide +kernel
theorem o_h32 : decode jdk_48_method_27_code 20 = .ok (.ireturn, 1) := by decide +kernel
theorem rmNl (l : Launch) (Z : State) (a0 : Array Value) (hw : ∀ d ∈ tables_1, d.before a0 Z = true) (ws : List Jvm.Cond) (o : Nat) (gr : Nat) (pr : Nat) (h0 : Heap) (n0 : Nat) (Z0 : n0 ≤ h0.size) (ho : o + max gr pr ≤ 1000) (hp0 : 0 < o + max gr pr)  :
    o_Met l (⟨"jdk/internal/util/ArraysSupport", "newLength", "(III)I"⟩ : MethodName) jdk_48_method_27_code 4 (some .int) ws (rO 1 0 0 14) #[(.int (Int32.ofNat o)), (.int (Int32.ofNat gr)), (.int (Int32.ofNat pr))] Z h0 (Q_rmNl Z o gr pr h0 n0) := by
 refine MetFree.of_bodySF (plainFor_of_name o_h17) hisR ?_
 intro p e s m args below meth c s₁ Bd hml0 hP hK
 obtain ⟨rfl, hZ, hh⟩ := hP
 have hx := Bd.exec
 have hby := Bd.bytes
 have hml : c.maxLocals = 4 := hml0
 have hown : s.vm.findClass "jdk/internal/util/ArraysSupport" = some m.cls := findClass_of_methodNamed Bd.named
 have hnm := (name_of_methodNamed Bd.named Bd.method).1
 have X0 : Stand p l e (rO 1 0 0 14) s m #[(.int (Int32.ofNat o)), (.int (Int32.ofNat gr)), (.int (Int32.ofNat pr))] below meth c s₁ [] 0 0 := Stand.of_body Bd
 have e0 : s₁.heap = h0 := by rw [← hh, Bd.state]; rfl
 have N0 := Fr.nil n0
 obtain ⟨B_, hB_⟩ : ∃ z, z = s₁.setTop (entryFrame m #[(.int (Int32.ofNat o)), (.int (Int32.ofNat gr)), (.int (Int32.ofNat pr))] 4) := ⟨_, rfl⟩
 have k0 : o_K p e below (s₁.setTop (mkF m 0 #[.val (.int (Int32.ofNat o)), .val (.int (Int32.ofNat gr)), .val (.int (Int32.ofNat pr)), .unset] [])) B_ := by rw [hB_]; exact fun t k => castTop (by clear k; first | (simp [entryFrame, mkF, argsToLocals, Value.category, maxLocals]; done) | rfl) k
 have k1 : o_J p e below s₁ m 3 #[vI (Int32.ofNat o), vI (Int32.ofNat gr), vI (Int32.ofNat pr), .unset] [(.int (Int32.ofNat pr)), (.int (Int32.ofNat gr)), (.int (Int32.ofNat o))] B_ := fun t_ hh => k0 t_ (by
  refine XS.iloadN X0.here hx rfl (hb hby o_h18) rfl ?_
  refine XS.iloadN X0.here hx rfl (hb hby o_h19) rfl ?_
  refine XS.iloadN X0.here hx rfl (hb hby o_h20) rfl ?_
  exact hh)
 obtain ⟨_, _, ⟨T21, L22, k_23, n_24⟩, -, X25, ⟨Lc26, hQ27, l_28, y_29, z_30⟩, st31⟩ := Jvm.LawKit.callS X0 hx (y := ⟨"java/lang/Math", "max", "(II)I"⟩) hown (mvT hZ (wT hw 103 rfl)) (mvT hZ (wT hw 104 rfl)) (mvT hZ (wT hw 105 rfl)) (mvT hZ (wT hw 106 rfl)) (by decide) (backOf (W := 1) (rmMax l Z a0 hw [] gr pr h0 n0 Z0 (by omega) (by omega) ) hZ (wT hw 106 rfl) (wT hw 105 rfl) (by decide) (by decide)) (g := (mkF m 3 #[vI (Int32.ofNat o), vI (Int32.ofNat gr), vI (Int32.ofNat pr), .unset] [(.int (Int32.ofNat pr)), (.int (Int32.ofNat gr)), (.int (Int32.ofNat o))])) rfl (by rw [hml]; rfl) (argsL := [(.int (Int32.ofNat gr)), (.int (Int32.ofNat pr))]) (rest := [(.int (Int32.ofNat o))]) (lenOf o_h22 rfl) rfl (o_w0 rfl) (hb hby o_h21) (fun _ _ => ⟨rfl, e0, o_l rfl, o_l rfl⟩)
 dsimp only [Pt.U, Pt.locs, Pt.cells, Pt.slots] at X25 l_28 y_29 z_30 st31 hQ27
 subst l_28 y_29 z_30
 obtain ⟨rfl, N32, e33⟩ := hQ27
 have N34 := Fr.app N0 N32
 have k2 : o_J p e below T21 m 6 #[vI (Int32.ofNat o), vI (Int32.ofNat gr), vI (Int32.ofNat pr), .unset] [(.int (Int32.ofNat (max gr pr))), (.int (Int32.ofNat o))] B_ := fun t_ hh => k1 t_ (st31 t_ hh)
 clear k1 st31
 have k3 : o_J p e below T21 m 7 #[vI (Int32.ofNat o), vI (Int32.ofNat gr), vI (Int32.ofNat pr), .unset] [(.int ((Int32.ofNat o) + (Int32.ofNat (max gr pr))))] B_ := fun t_ hh => k2 t_ (by
  refine XS.iadd X25.here hx rfl (hb hby o_h23) rfl ?_
  exact hh)
 clear k2
 have k4 : o_J p e below T21 m 7 #[vI (Int32.ofNat o), vI (Int32.ofNat gr), vI (Int32.ofNat pr), .unset] [(.int (Int32.ofNat (o + max gr pr)))] B_ := by have q := k3; rw [o_addN] at q; exact q
 have k5 : o_J p e below T21 m 20 #[vI (Int32.ofNat o), vI (Int32.ofNat gr), vI (Int32.ofNat pr), vI (Int32.ofNat (o + max gr pr))] [(.int (Int32.ofNat (o + max gr pr)))] B_ := fun t_ hh => k4 t_ (by
  refine XS.istoreN X25.here hx rfl (hb hby o_h24) rfl (l' := #[vI (Int32.ofNat o), vI (Int32.ofNat gr), vI (Int32.ofNat pr), vI (Int32.ofNat (o + max gr pr))]) rfl ?_
  refine XS.iconst X25.here hx rfl (hb hby o_h25) ?_
  refine XS.iloadN X25.here hx rfl (hb hby o_h26) rfl ?_
  refine XS.icmpNo X25.here hx rfl (hb hby o_h27) rfl (o_icF_ge (o_pos0 hp0 (by omega))) ?_
  refine XS.iloadN X25.here hx rfl (hb hby o_h28) rfl ?_
  refine X25.ldcInt hx hown (mvT hZ (wT hw 107 rfl)) (g := (mkF m 14 #[vI (Int32.ofNat o), vI (Int32.ofNat gr), vI (Int32.ofNat pr), vI (Int32.ofNat (o + max gr pr))] [(.int (Int32.ofNat (o + max gr pr)))])) rfl (hb hby o_h29) _ ?_
  refine XS.icmpNo X25.here hx rfl (hb hby o_h30) rfl (o_icF_gt (o_smax ho)) ?_
  refine XS.iloadN X25.here hx rfl (hb hby o_h31) rfl ?_
  exact hh)
 clear k4
 obtain ⟨fs, hr, hrun, hended, hW, hsame⟩ := X25.leave (v := some (.int (Int32.ofNat (o + max gr pr)))) (fun h => by rw [Bd.returns] at h; cases h)
 refine ⟨_, _, (o_from hB_ (k5 _ (retOut X25 hx (t := .int) Bd.returns rfl (Or.inl ⟨rfl, (by simp), _, rfl⟩) (hb hby o_h32) hr))), hrun, hended, _, _, rfl, ?_, ⟨_, rfl⟩, hW, hsame.mono (o_l rfl) (o_l rfl)⟩
 show Q_rmNl Z o gr pr h0 n0 _ T21.heap _
 rw [e33]
 exact ⟨rfl, N34, rfl⟩
def Q_rmNc (Z : State) (b : Addr) (t : Addr) (kt : ClassId) (cap : Nat) (ds : List Value) (mc : Nat) (h0 : Heap) (n0 : Nat) (v : Option Value) (h : Heap) (L : List Loc) : Prop := v = some (.int (Int32.ofNat (o_nc cap mc))) ∧ Fr n0 L ∧ h = h0
theorem o_h33 : plainName oA = true := by first | (simp [plainName, overriddenIn]; done) | decide +kernel
theorem o_h34 : decode jdk_68_method_10_code 0 = .ok (.aload_n 0, 1) := by decide +kernel
theorem o_h35 : decode jdk_68_method_10_code 1 = .ok (.getfield 15, 3) := by decide +kernel
theorem o_h36 : decode jdk_68_method_10_code 4 = .ok (.arraylength, 1) := by decide +kernel
theorem o_h37 : decode jdk_68_method_10_code 5 = .ok (.istore_n 2, 1) := by decide +kernel
theorem o_h38 : decode jdk_68_method_10_code 6 = .ok (.iload_n 1, 1) := by decide +kernel
theorem o_h39 : decode jdk_68_method_10_code 7 = .ok (.aload_n 0, 1) := by decide +kernel
theorem o_h40 : decode jdk_68_method_10_code 8 = .ok (.getfield 22, 3) := by decide +kernel
theorem o_h41 : decode jdk_68_method_10_code 11 = .ok (.ishl, 1) := by decide +kernel
theorem o_h42 : decode jdk_68_method_10_code 12 = .ok (.istore_n 3, 1) := by decide +kernel
theorem o_h43 : decode jdk_68_method_10_code 13 = .ok (.iload_n 3, 1) := by decide +kernel
theorem o_h44 : decode jdk_68_method_10_code 14 = .ok (.iload_n 2, 1) := by decide +kernel
theorem o_h45 : decode jdk_68_method_10_code 15 = .ok (.isub, 1) := by decide +kernel
theorem o_h46 : decode jdk_68_method_10_code 16 = .ok (.istore 4, 2) := by decide +kernel
theorem o_h47 : decode jdk_68_method_10_code 18 = .ok (.iload_n 2, 1) := by decide +kernel
theorem o_h48 : decode jdk_68_method_10_code 19 = .ok (.iload 4, 2) := by decide +kernel
theorem o_h49 : decode jdk_68_method_10_code 21 = .ok (.iload_n 2, 1) := by decide +kernel
theorem o_h50 : decode jdk_68_method_10_code 22 = .ok (.iconst 2, 1) := by decide +kernel
theorem o_h51 : decode jdk_68_method_10_code 23 = .ok (.aload_n 0, 1) := by decide +kernel
theorem o_h52 : decode jdk_68_method_10_code 24 = .ok (.getfield 22, 3) := by decide +kernel
theorem o_h53 : decode jdk_68_method_10_code 27 = .ok (.ishl, 1) := by decide +kernel
theorem o_h54 : decode jdk_68_method_10_code 28 = .ok (.iadd, 1) := by decide +kernel
theorem o_h55 : decode jdk_68_method_10_code 29 = .ok (.invokestatic 114, 3) := by decide +kernel
theorem o_h56 : parseMethodDescriptor "(III)I" = some ⟨[.int, .int, .int], some .int⟩ := by decide +kernel
theorem o_h57 : decode jdk_68_method_10_code 32 = .ok (.istore 5, 2) := by decide +kernel
theorem o_h58 : decode jdk_68_method_10_code 34 = .ok (.iload 5, 2) := by decide +kernel
theorem o_h59 : decode jdk_68_method_10_code 36 = .ok (.ldc 39, 2) := by decide +kernel
theorem o_h60 : decode jdk_68_method_10_code 38 = .ok (.if_icmp .ne 13, 3) := by decide +kernel
theorem o_h61 : decode jdk_68_method_10_code 51 = .ok (.iload 5, 2) := by decide +kernel
theorem o_h62 : decode jdk_68_method_10_code 53 = .ok (.aload_n 0, 1) := by decide +kernel
theorem o_h63 : decode jdk_68_method_10_code 54 = .ok (.getfield 22, 3) := by decide +kernel
theorem o_h64 : decode jdk_68_method_10_code 57 = .ok (.ishr, 1) := by decide +kernel
theorem o_h65 : decode jdk_68_method_10_code 58 = .ok (.ireturn, 1) := by decide +kernel
theorem rmNc (l : Launch) (Z : State) (a0 : Array Value) (hw : ∀ d ∈ tables_1, d.before a0 Z = true) (ws : List Jvm.Cond) (b : Addr) (t : Addr) (kt : ClassId) (cap : Nat) (ds : List Value) (mc : Nat) (h0 : Heap) (n0 : Nat) (Z0 : n0 ≤ h0.size) (f0_ : Fld Z h0 b oA "value" "[B" (.ref t)) (f1_ : Fld Z h0 b oA "coder" "B" (.int (0 : Int32))) (f2_ : Arv Z h0 t kt .byte (Int32.ofNat cap) ds (.int (0 : Int32))) (hlt : cap < mc) (hmc : o_nc cap mc ≤ 160)  :
    o_Met l (⟨oA, "newCapacity", "(I)I"⟩ : MethodName) jdk_68_method_10_code 6 (some .int) ws (rO 2 0 0 29) #[.ref b, (.int (Int32.ofNat mc))] Z h0 (Q_rmNc Z b t kt cap ds mc h0 n0) := by
 refine MetFree.of_bodySF (plainFor_of_name o_h33) hisR ?_
 intro p e s m args below meth c s₁ Bd hml0 hP hK
 obtain ⟨rfl, hZ, hh⟩ := hP
 have hx := Bd.exec
 have hby := Bd.bytes
 have hml : c.maxLocals = 6 := hml0
 have hown : s.vm.findClass oA = some m.cls := findClass_of_methodNamed Bd.named
 have hnm := (name_of_methodNamed Bd.named Bd.method).1
 have X0 : Stand p l e (rO 2 0 0 29) s m #[.ref b, (.int (Int32.ofNat mc))] below meth c s₁ [] 0 0 := Stand.of_body Bd
 have e0 : s₁.heap = h0 := by rw [← hh, Bd.state]; rfl
 have N0 := Fr.nil n0
 obtain ⟨B_, hB_⟩ : ∃ z, z = s₁.setTop (entryFrame m #[.ref b, (.int (Int32.ofNat mc))] 6) := ⟨_, rfl⟩
 have k0 : o_K p e below (s₁.setTop (mkF m 0 #[.val (.ref b), .val (.int (Int32.ofNat mc)), .unset, .unset, .unset, .unset] [])) B_ := by rw [hB_]; exact fun t k => castTop (by clear k; first | (simp [entryFrame, mkF, argsToLocals, Value.category, maxLocals]; done) | rfl) k
 have hbb : cap + max (mc - cap) (cap + 2) ≤ 160 := hmc
 have k1 : o_J p e below s₁ m 1 #[vR b, vI (Int32.ofNat mc), .unset, .unset, .unset, .unset] [.ref b] B_ := fun t_ hh => k0 t_ (by
  refine XS.aloadN X0.here hx rfl (hb hby o_h34) rfl rfl ?_
  exact hh)
 obtain ⟨T21, X22, e23, st24⟩ := getF X0 hx hZ hown (host := "") (Or.inl (wT hw 55 rfl)) Via.refl e0 f0_ (g := (mkF m 1 #[vR b, vI (Int32.ofNat mc), .unset, .unset, .unset, .unset] [.ref b])) rfl rfl (hb hby o_h35)
 have k2 : o_J p e below T21 m 4 #[vR b, vI (Int32.ofNat mc), .unset, .unset, .unset, .unset] [.ref t] B_ := fun t_ hh => k1 t_ (st24 t_ hh)
 clear k1 st24
 obtain ⟨cl25, Ar26, -, S27, Ng28, -, -⟩ := id f2_
 have k3 : o_J p e below T21 m 8 #[vR b, vI (Int32.ofNat mc), vI (Int32.ofNat cap), .unset, .unset, .unset] [.ref b, (.int (Int32.ofNat mc))] B_ := fun t_ hh => k2 t_ (by
  refine X22.arraylength hx (by rw [e23]; exact Ar26.1) (State.isArrayOf_alike hZ.alike Ar26.2.1) (g := (mkF m 4 #[vR b, vI (Int32.ofNat mc), .unset, .unset, .unset, .unset] [.ref t])) rfl rfl (hb hby o_h36) _ ?_
  rw [len_of S27 Ng28]
  refine XS.istoreN X22.here hx rfl (hb hby o_h37) rfl (l' := #[vR b, vI (Int32.ofNat mc), vI (Int32.ofNat cap), .unset, .unset, .unset]) rfl ?_
  refine XS.iloadN X22.here hx rfl (hb hby o_h38) rfl ?_
  refine XS.aloadN X22.here hx rfl (hb hby o_h39) rfl rfl ?_
  exact hh)
 clear k2
 obtain ⟨T29, X30, e31, st32⟩ := getF X22 hx hZ hown (host := "") (Or.inl (wT hw 57 rfl)) Via.refl e23 f1_ (g := (mkF m 8 #[vR b, vI (Int32.ofNat mc), vI (Int32.ofNat cap), .unset, .unset, .unset] [.ref b, (.int (Int32.ofNat mc))])) rfl rfl (hb hby o_h40)
 have k4 : o_J p e below T29 m 11 #[vR b, vI (Int32.ofNat mc), vI (Int32.ofNat cap), .unset, .unset, .unset] [(.int 0), (.int (Int32.ofNat mc))] B_ := fun t_ hh => k3 t_ (st32 t_ hh)
 clear k3 st32 X22 e23
 have k5 : o_J p e below T29 m 16 #[vR b, vI (Int32.ofNat mc), vI (Int32.ofNat cap), vI (Int32.ofNat mc), .unset, .unset] [(.int ((Int32.ofNat mc) - (Int32.ofNat cap)))] B_ := fun t_ hh => k4 t_ (by
  refine XS.ishl X30.here hx rfl (hb hby o_h41) rfl ?_
  rw [o_shl0]
  refine XS.istoreN X30.here hx rfl (hb hby o_h42) rfl (l' := #[vR b, vI (Int32.ofNat mc), vI (Int32.ofNat cap), vI (Int32.ofNat mc), .unset, .unset]) rfl ?_
  refine XS.iloadN X30.here hx rfl (hb hby o_h43) rfl ?_
  refine XS.iloadN X30.here hx rfl (hb hby o_h44) rfl ?_
  refine XS.isub X30.here hx rfl (hb hby o_h45) rfl ?_
  exact hh)
 clear k4
 have k6 : o_J p e below T29 m 16 #[vR b, vI (Int32.ofNat mc), vI (Int32.ofNat cap), vI (Int32.ofNat mc), .unset, .unset] [(.int (Int32.ofNat (mc - cap)))] B_ := by have q := k5; rw [o_subN (by omega) (by omega)] at q; exact q
 have k7 : o_J p e below T29 m 24 #[vR b, vI (Int32.ofNat mc), vI (Int32.ofNat cap), vI (Int32.ofNat mc), vI (Int32.ofNat (mc - cap)), .unset] [.ref b, (.int 2), (.int (Int32.ofNat cap)), (.int (Int32.ofNat (mc - cap))), (.int (Int32.ofNat cap))] B_ := fun t_ hh => k6 t_ (by
  refine XS.istore X30.here hx rfl (hb hby o_h46) rfl (l' := #[vR b, vI (Int32.ofNat mc), vI (Int32.ofNat cap), vI (Int32.ofNat mc), vI (Int32.ofNat (mc - cap)), .unset]) rfl ?_
  refine XS.iloadN X30.here hx rfl (hb hby o_h47) rfl ?_
  refine XS.iload X30.here hx rfl (hb hby o_h48) rfl ?_
  refine XS.iloadN X30.here hx rfl (hb hby o_h49) rfl ?_
  refine XS.iconst X30.here hx rfl (hb hby o_h50) ?_
  refine XS.aloadN X30.here hx rfl (hb hby o_h51) rfl rfl ?_
  exact hh)
 clear k6
 obtain ⟨T33, X34, e35, st36⟩ := getF X30 hx hZ hown (host := "") (Or.inl (wT hw 57 rfl)) Via.refl e31 f1_ (g := (mkF m 24 #[vR b, vI (Int32.ofNat mc), vI (Int32.ofNat cap), vI (Int32.ofNat mc), vI (Int32.ofNat (mc - cap)), .unset] [.ref b, (.int 2), (.int (Int32.ofNat cap)), (.int (Int32.ofNat (mc - cap))), (.int (Int32.ofNat cap))])) rfl rfl (hb hby o_h52)
 have k8 : o_J p e below T33 m 27 #[vR b, vI (Int32.ofNat mc), vI (Int32.ofNat cap), vI (Int32.ofNat mc), vI (Int32.ofNat (mc - cap)), .unset] [(.int 0), (.int 2), (.int (Int32.ofNat cap)), (.int (Int32.ofNat (mc - cap))), (.int (Int32.ofNat cap))] B_ := fun t_ hh => k7 t_ (st36 t_ hh)
 clear k7 st36 X30 e31
 have k9 : o_J p e below T33 m 29 #[vR b, vI (Int32.ofNat mc), vI (Int32.ofNat cap), vI (Int32.ofNat mc), vI (Int32.ofNat (mc - cap)), .unset] [(.int ((Int32.ofNat cap) + (2 : Int32))), (.int (Int32.ofNat (mc - cap))), (.int (Int32.ofNat cap))] B_ := fun t_ hh => k8 t_ (by
  refine XS.ishl X34.here hx rfl (hb hby o_h53) rfl ?_
  refine XS.iadd X34.here hx rfl (hb hby o_h54) rfl ?_
  exact hh)
 clear k8
 have k10 : o_J p e below T33 m 29 #[vR b, vI (Int32.ofNat mc), vI (Int32.ofNat cap), vI (Int32.ofNat mc), vI (Int32.ofNat (mc - cap)), .unset] [(.int (Int32.ofNat (cap + 2))), (.int (Int32.ofNat (mc - cap))), (.int (Int32.ofNat cap))] B_ := by have q := k9; rw [o_add2] at q; exact q
 obtain ⟨_, _, ⟨T37, L38, k_39, n_40⟩, -, X41, ⟨Lc42, hQ43, l_44, y_45, z_46⟩, st47⟩ := Jvm.LawKit.callS X34 hx (y := ⟨"jdk/internal/util/ArraysSupport", "newLength", "(III)I"⟩) hown (mvT hZ (wT hw 99 rfl)) (mvT hZ (wT hw 100 rfl)) (mvT hZ (wT hw 101 rfl)) (mvT hZ (wT hw 102 rfl)) (by decide) (backOf (W := 0) (rmNl l Z a0 hw [] cap (mc - cap) (cap + 2) h0 n0 Z0 (by omega) (by omega) ) hZ (wT hw 102 rfl) (wT hw 101 rfl) (by decide) (by decide)) (g := (mkF m 29 #[vR b, vI (Int32.ofNat mc), vI (Int32.ofNat cap), vI (Int32.ofNat mc), vI (Int32.ofNat (mc - cap)), .unset] [(.int (Int32.ofNat (cap + 2))), (.int (Int32.ofNat (mc - cap))), (.int (Int32.ofNat cap))])) rfl (by rw [hml]; rfl) (argsL := [(.int (Int32.ofNat cap)), (.int (Int32.ofNat (mc - cap))), (.int (Int32.ofNat (cap + 2)))]) (rest := []) (lenOf o_h56 rfl) rfl (o_w0 rfl) (hb hby o_h55) (fun _ _ => ⟨rfl, e35, o_l rfl, o_l rfl⟩)
 dsimp only [Pt.U, Pt.locs, Pt.cells, Pt.slots] at X41 l_44 y_45 z_46 st47 hQ43
 subst l_44 y_45 z_46
 obtain ⟨rfl, N48, e49⟩ := hQ43
 have N50 := Fr.app N0 N48
 have k11 : o_J p e below T37 m 32 #[vR b, vI (Int32.ofNat mc), vI (Int32.ofNat cap), vI (Int32.ofNat mc), vI (Int32.ofNat (mc - cap)), .unset] [(.int (Int32.ofNat (cap + max (mc - cap) (cap + 2))))] B_ := fun t_ hh => k10 t_ (st47 t_ hh)
 clear k10 st47 X34 e35
 have k12 : o_J p e below T37 m 32 #[vR b, vI (Int32.ofNat mc), vI (Int32.ofNat cap), vI (Int32.ofNat mc), vI (Int32.ofNat (mc - cap)), .unset] [(.int (Int32.ofNat (o_nc cap mc)))] B_ := k11
 have k13 : o_J p e below T37 m 54 #[vR b, vI (Int32.ofNat mc), vI (Int32.ofNat cap), vI (Int32.ofNat mc), vI (Int32.ofNat (mc - cap)), vI (Int32.ofNat (o_nc cap mc))] [.ref b, (.int (Int32.ofNat (o_nc cap mc)))] B_ := fun t_ hh => k12 t_ (by
  refine XS.istore X41.here hx rfl (hb hby o_h57) rfl (l' := #[vR b, vI (Int32.ofNat mc), vI (Int32.ofNat cap), vI (Int32.ofNat mc), vI (Int32.ofNat (mc - cap)), vI (Int32.ofNat (o_nc cap mc))]) rfl ?_
  refine XS.iload X41.here hx rfl (hb hby o_h58) rfl ?_
  refine X41.ldcInt hx hown (mvT hZ (wT hw 108 rfl)) (g := (mkF m 36 #[vR b, vI (Int32.ofNat mc), vI (Int32.ofNat cap), vI (Int32.ofNat mc), vI (Int32.ofNat (mc - cap)), vI (Int32.ofNat (o_nc cap mc))] [(.int (Int32.ofNat (o_nc cap mc)))])) rfl (hb hby o_h59) _ ?_
  refine XS.icmpYes X41.here hx rfl (pc0 := 38) (pc' := 51) rfl (hb hby o_h60) rfl (o_icT_ne (o_nemax (Nat.le_trans hmc (o_l rfl)))) (by decide) (by decide) ?_
  refine XS.iload X41.here hx rfl (hb hby o_h61) rfl ?_
  refine XS.aloadN X41.here hx rfl (hb hby o_h62) rfl rfl ?_
  exact hh)
 clear k12
 obtain ⟨T51, X52, e53, st54⟩ := getF X41 hx hZ hown (host := "") (Or.inl (wT hw 57 rfl)) Via.refl e49 f1_ (g := (mkF m 54 #[vR b, vI (Int32.ofNat mc), vI (Int32.ofNat cap), vI (Int32.ofNat mc), vI (Int32.ofNat (mc - cap)), vI (Int32.ofNat (o_nc cap mc))] [.ref b, (.int (Int32.ofNat (o_nc cap mc)))])) rfl rfl (hb hby o_h63)
 have k14 : o_J p e below T51 m 57 #[vR b, vI (Int32.ofNat mc), vI (Int32.ofNat cap), vI (Int32.ofNat mc), vI (Int32.ofNat (mc - cap)), vI (Int32.ofNat (o_nc cap mc))] [(.int 0), (.int (Int32.ofNat (o_nc cap mc)))] B_ := fun t_ hh => k13 t_ (st54 t_ hh)
 clear k13 st54 X41 e49
 have k15 : o_J p e below T51 m 58 #[vR b, vI (Int32.ofNat mc), vI (Int32.ofNat cap), vI (Int32.ofNat mc), vI (Int32.ofNat (mc - cap)), vI (Int32.ofNat (o_nc cap mc))] [(.int (Int32.ofNat (o_nc cap mc)))] B_ := fun t_ hh => k14 t_ (by
  refine XS.ishr X52.here hx rfl (hb hby o_h64) rfl ?_
  rw [o_shr0]
  exact hh)
 clear k14
 obtain ⟨fs, hr, hrun, hended, hW, hsame⟩ := X52.leave (v := some (.int (Int32.ofNat (o_nc cap mc)))) (fun h => by rw [Bd.returns] at h; cases h)
 refine ⟨_, _, (o_from hB_ (k15 _ (retOut X52 hx (t := .int) Bd.returns rfl (Or.inl ⟨rfl, (by simp), _, rfl⟩) (hb hby o_h65) hr))), hrun, hended, _, _, rfl, ?_, ⟨_, rfl⟩, hW, hsame.mono (o_l rfl) (o_l rfl)⟩
 show Q_rmNc Z b t kt cap ds mc h0 n0 _ T51.heap _
 rw [e53]
 exact ⟨rfl, N50, rfl⟩
def Q_rmCp (Z : State) (t : Addr) (kt : ClassId) (cap : Nat) (ds : List Value) (nc : Nat) (h0 : Heap) (n0 : Nat) (v : Option Value) (h : Heap) (L : List Loc) : Prop := ∃ t2 : Addr, ∃ k2 : ClassId, ∃ es : List Value, v = some (.ref t2) ∧ Fr n0 L ∧ Keep h0 h [] ∧ Arv Z h t2 k2 .byte (Int32.ofNat nc) es (.int (0 : Int32)) ∧ Exa Z h t2 "[B" ∧ (es.length = nc ∧ es.take cap = ds) ∧ n0 ≤ t2 ∧ h0.size ≤ t2 ∧ True
theorem o_h66 : plainName "java/util/Arrays" = true := by first | (simp [plainName, overriddenIn]; done) | decide +kernel
theorem o_h67 : decode jdk_65_method_121_code 0 = .ok (.iload_n 1, 1) := by decide +kernel
theorem o_h68 : decode jdk_65_method_121_code 1 = .ok (.aload_n 0, 1) := by decide +kernel
theorem o_h69 : decode jdk_65_method_121_code 2 = .ok (.arraylength, 1) := by decide +kernel
theorem o_h70 : decode jdk_65_method_121_code 3 = .ok (.if_icmp .ne 11, 3) := by decide +kernel
theorem o_h71 : decode jdk_65_method_121_code 14 = .ok (.iload_n 1, 1) := by decide +kernel
theorem o_h72 : decode jdk_65_method_121_code 15 = .ok (.newarray .byte, 2) := by decide +kernel
theorem o_h73 : decode jdk_65_method_121_code 17 = .ok (.astore_n 2, 1) := by decide +kernel
theorem o_h74 : decode jdk_65_method_121_code 18 = .ok (.aload_n 0, 1) := by decide +kernel
theorem o_h75 : decode jdk_65_method_121_code 19 = .ok (.iconst 0, 1) := by decide +kernel
theorem o_h76 : decode jdk_65_method_121_code 20 = .ok (.aload_n 2, 1) := by decide +kernel
theorem o_h77 : decode jdk_65_method_121_code 21 = .ok (.iconst 0, 1) := by decide +kernel
theorem o_h78 : decode jdk_65_method_121_code 22 = .ok (.aload_n 0, 1) := by decide +kernel
theorem o_h79 : decode jdk_65_method_121_code 23 = .ok (.arraylength, 1) := by decide +kernel
theorem o_h80 : decode jdk_65_method_121_code 24 = .ok (.iload_n 1, 1) := by decide +kernel
theorem o_h81 : decode jdk_65_method_121_code 25 = .ok (.invokestatic 304, 3) := by decide +kernel
theorem o_h82 : decode jdk_65_method_121_code 28 = .ok (.invokestatic 150, 3) := by decide +kernel
theorem o_h83 : decode jdk_65_method_121_code 31 = .ok (.aload_n 2, 1) := by decide +kernel
theorem o_h84 : decode jdk_65_method_121_code 32 = .ok (.areturn, 1) := by decide +kernel
theorem rmCp (l : Launch) (Z : State) (a0 : Array Value) (hw : ∀ d ∈ tables_1, d.before a0 Z = true) (ws : List Jvm.Cond) (t : Addr) (kt : ClassId) (cap : Nat) (ds : List Value) (nc : Nat) (h0 : Heap) (n0 : Nat) (Z0 : n0 ≤ h0.size) (f0_ : Arv Z h0 t kt .byte (Int32.ofNat cap) ds (.int (0 : Int32))) (hds : ds.length = cap) (hlt : cap < nc) (hnc : nc ≤ 160)  :
    o_Met l (⟨"java/util/Arrays", "copyOf", "([BI)[B"⟩ : MethodName) jdk_65_method_121_code 3 (some (.array .byte)) ws (rO 1 1 160 18) #[.ref t, (.int (Int32.ofNat nc))] Z h0 (Q_rmCp Z t kt cap ds nc h0 n0) := by
 refine MetFree.of_bodySF (plainFor_of_name o_h66) hisR ?_
 intro p e s m args below meth c s₁ Bd hml0 hP hK
 obtain ⟨rfl, hZ, hh⟩ := hP
 have hx := Bd.exec
 have hby := Bd.bytes
 have hml : c.maxLocals = 3 := hml0
 have hown : s.vm.findClass "java/util/Arrays" = some m.cls := findClass_of_methodNamed Bd.named
 have hnm := (name_of_methodNamed Bd.named Bd.method).1
 have X0 : Stand p l e (rO 1 1 160 18) s m #[.ref t, (.int (Int32.ofNat nc))] below meth c s₁ [] 0 0 := Stand.of_body Bd
 have e0 : s₁.heap = h0 := by rw [← hh, Bd.state]; rfl
 have N0 := Fr.nil n0
 obtain ⟨B_, hB_⟩ : ∃ z, z = s₁.setTop (entryFrame m #[.ref t, (.int (Int32.ofNat nc))] 3) := ⟨_, rfl⟩
 have k0 : o_K p e below (s₁.setTop (mkF m 0 #[.val (.ref t), .val (.int (Int32.ofNat nc)), .unset] [])) B_ := by rw [hB_]; exact fun t k => castTop (by clear k; first | (simp [entryFrame, mkF, argsToLocals, Value.category, maxLocals]; done) | rfl) k
 have K0 : Keep h0 h0 [] := Keep.refl _ _
 obtain ⟨cl21, Ar22, -, S23, Ng24, -, -⟩ := id f0_
 have k1 : o_J p e below s₁ m 15 #[vR t, vI (Int32.ofNat nc), .unset] [(.int (Int32.ofNat nc))] B_ := fun t_ hh => k0 t_ (by
  refine XS.iloadN X0.here hx rfl (hb hby o_h67) rfl ?_
  refine XS.aloadN X0.here hx rfl (hb hby o_h68) rfl rfl ?_
  refine X0.arraylength hx (by rw [e0]; exact Ar22.1) (State.isArrayOf_alike hZ.alike Ar22.2.1) (g := (mkF m 2 #[vR t, vI (Int32.ofNat nc), .unset] [.ref t, (.int (Int32.ofNat nc))])) rfl rfl (hb hby o_h69) _ ?_
  rw [len_of S23 Ng24]
  refine XS.icmpYes X0.here hx rfl (pc0 := 3) (pc' := 14) rfl (hb hby o_h70) rfl (o_icT_ne (o_ne32 (by omega) (by omega) (by omega))) (by decide) (by decide) ?_
  refine XS.iloadN X0.here hx rfl (hb hby o_h71) rfl ?_
  exact hh)
 obtain ⟨T25, h26, kA27, X28, e29, E30, A31, EA34, st33⟩ := newPE X0 hx hZ (wT hw 19 rfl) e0 (g := (mkF m 15 #[vR t, vI (Int32.ofNat nc), .unset] [(.int (Int32.ofNat nc))])) rfl (hb hby o_h72) rfl (o_nneg (by omega)) (cap := 160) (by rw [o_natC (by omega)]; omega) (by decide) (by decide) (by decide) (ad := "[B") (by decide)
 obtain ⟨a35, g36⟩ : ∃ z, z = h0.size := ⟨_, rfl⟩
 rw [← g36] at A31 EA34 st33
 have H037 : h0.size ≤ a35 := Nat.le_trans K0.1 (Nat.le_of_eq g36.symm)
 have G38 : n0 ≤ a35 := Nat.le_trans Z0 (Nat.le_of_eq g36.symm)
 have F39 := f0_.ext E30
 have Z40 : n0 ≤ h26.size := Nat.le_trans Z0 E30.1
 have P41 : Keep h0 h26 [] := K0.ext E30
 have V42 : Arv Z h26 a35 kA27 .byte (Int32.ofNat nc) (List.replicate nc (.int 0)) (.int 0) := Arv.pad (Arv.new A31 (o_nneg (by omega))) (pad_rep [] (.int 0) nc)
 have k2 : o_J p e below T25 m 17 #[vR t, vI (Int32.ofNat nc), .unset] [.ref a35] B_ := fun t_ hh => k1 t_ (st33 t_ hh)
 clear k1 st33
 obtain ⟨cl43, Ar44, -, S45, Ng46, -, -⟩ := id F39
 have k3 : o_J p e below T25 m 25 #[vR t, vI (Int32.ofNat nc), vR a35] [(.int (Int32.ofNat nc)), (.int (Int32.ofNat cap)), (.int 0), .ref a35, (.int 0), .ref t] B_ := fun t_ hh => k2 t_ (by
  refine XS.astoreN X28.here hx rfl (hb hby o_h73) rfl rfl (l' := #[vR t, vI (Int32.ofNat nc), vR a35]) rfl ?_
  refine XS.aloadN X28.here hx rfl (hb hby o_h74) rfl rfl ?_
  refine XS.iconst X28.here hx rfl (hb hby o_h75) ?_
  refine XS.aloadN X28.here hx rfl (hb hby o_h76) rfl rfl ?_
  refine XS.iconst X28.here hx rfl (hb hby o_h77) ?_
  refine XS.aloadN X28.here hx rfl (hb hby o_h78) rfl rfl ?_
  refine X28.arraylength hx (by rw [e29]; exact Ar44.1) (State.isArrayOf_alike hZ.alike Ar44.2.1) (g := (mkF m 23 #[vR t, vI (Int32.ofNat nc), vR a35] [.ref t, (.int 0), .ref a35, (.int 0), .ref t])) rfl rfl (hb hby o_h79) _ ?_
  rw [len_of S45 Ng46]
  refine XS.iloadN X28.here hx rfl (hb hby o_h80) rfl ?_
  exact hh)
 clear k2
 obtain ⟨_, _, ⟨T47, L48, k_49, n_50⟩, -, X51, ⟨Lc52, hQ53, l_54, y_55, z_56⟩, st57⟩ := Jvm.LawKit.callS X28 hx (y := ⟨"java/lang/Math", "min", "(II)I"⟩) hown (mvT hZ (wT hw 113 rfl)) (mvT hZ (wT hw 114 rfl)) (mvT hZ (wT hw 105 rfl)) (mvT hZ (wT hw 115 rfl)) (by decide) (backOf (W := 4) (rmMin l Z a0 hw [] cap nc h26 n0 Z40 (by omega) (by omega) ) hZ (wT hw 115 rfl) (wT hw 105 rfl) (by decide) (by decide)) (g := (mkF m 25 #[vR t, vI (Int32.ofNat nc), vR a35] [(.int (Int32.ofNat nc)), (.int (Int32.ofNat cap)), (.int 0), .ref a35, (.int 0), .ref t])) rfl (by rw [hml]; rfl) (argsL := [(.int (Int32.ofNat cap)), (.int (Int32.ofNat nc))]) (rest := [(.int 0), .ref a35, (.int 0), .ref t]) (lenOf o_h22 rfl) rfl (o_w0 rfl) (hb hby o_h81) (fun _ _ => ⟨rfl, e29, o_l rfl, o_l rfl⟩)
 dsimp only [Pt.U, Pt.locs, Pt.cells, Pt.slots] at X51 l_54 y_55 z_56 st57 hQ53
 subst l_54 y_55 z_56
 obtain ⟨rfl, N58, e59⟩ := hQ53
 have N60 := Fr.app N0 N58
 have k4 : o_J p e below T47 m 28 #[vR t, vI (Int32.ofNat nc), vR a35] [(.int (Int32.ofNat (min cap nc))), (.int 0), .ref a35, (.int 0), .ref t] B_ := fun t_ hh => k3 t_ (st57 t_ hh)
 clear k3 st57 X28 e29
 have k5 : o_J p e below T47 m 28 #[vR t, vI (Int32.ofNat nc), vR a35] [(.int (Int32.ofNat cap)), (.int 0), .ref a35, (.int 0), .ref t] B_ := by have q := k4; rw [Nat.min_eq_left (Nat.le_of_lt hlt)] at q; exact q
 obtain ⟨T61, h62, L63, X64, e65, N66, K67, F68, st69⟩ := o_cp X51 hx hZ hown (wT hw 116 rfl) (wT hw 119 rfl) (wT hw 117 rfl) (wT hw 118 rfl) e59 (dp := 0) (nn := cap) F39 V42 rfl (Nat.le_refl _) (by omega) (by omega) (by omega) (by omega) List.length_replicate N60 G38 (g := (mkF m 28 #[vR t, vI (Int32.ofNat nc), vR a35] [(.int (Int32.ofNat cap)), (.int 0), .ref a35, (.int 0), .ref t])) rfl (by rw [hml]; rfl) (rest := []) rfl (hb hby o_h82) (by decide) (W := 0) (o_w0 rfl) (by decide)
 have ne71 : t ≠ a35 := by rw [g36]; exact Nat.ne_of_lt f0_.lt
 have F70 := F39.keep K67 (ninS ne71 nin0)
 have F72 := EA34.keep K67
 have Z73 : n0 ≤ h62.size := Nat.le_trans Z40 K67.1
 have P74 : Keep h0 h62 [] := P41.trans K67 (allS (P := fun x => x ∈ [] ∨ h0.size ≤ x) (Or.inr H037) all0)
 have k6 : o_J p e below T61 m 31 #[vR t, vI (Int32.ofNat nc), vR a35] [] B_ := fun t_ hh => k5 t_ (st69 t_ hh)
 clear k5 st69 X51 e59
 have k7 : o_J p e below T61 m 32 #[vR t, vI (Int32.ofNat nc), vR a35] [.ref a35] B_ := fun t_ hh => k6 t_ (by
  refine XS.aloadN X64.here hx rfl (hb hby o_h83) rfl rfl ?_
  exact hh)
 clear k6
 obtain ⟨fs, hr, hrun, hended, hW, hsame⟩ := X64.leave (v := some (.ref a35)) (fun h => by rw [Bd.returns] at h; cases h)
 refine ⟨_, _, (o_from hB_ (k7 _ (retOut X64 hx (t := .array .byte) Bd.returns rfl (Or.inr (Or.inr (Or.inr (Or.inr ⟨rfl, rfl, rfl⟩)))) (hb hby o_h84) hr))), hrun, hended, _, _, rfl, ?_, ⟨_, rfl⟩, hW, hsame.mono (o_l rfl) (o_l rfl)⟩
 show Q_rmCp Z t kt cap ds nc h0 n0 _ T61.heap _
 rw [e65]
 exact ⟨a35, kA27, (List.take 0 (List.replicate nc (.int 0)) ++ List.take cap ds ++ List.drop (0 + cap) (List.replicate nc (.int 0))), rfl, N66, P74, F68, F72, (o_cp_es hds hlt), G38, H037, trivial⟩
def Q_rmEn0 (Z : State) (b : Addr) (t : Addr) (kt : ClassId) (cap : Nat) (ds : List Value) (mc : Nat) (h0 : Heap) (n0 : Nat) (v : Option Value) (h : Heap) (L : List Loc) : Prop := v = none ∧ Fr n0 L ∧ h = h0
theorem o_h85 : decode jdk_68_method_9_code 0 = .ok (.aload_n 0, 1) := by decide +kernel
theorem o_h86 : decode jdk_68_method_9_code 1 = .ok (.getfield 15, 3) := by decide +kernel
theorem o_h87 : decode jdk_68_method_9_code 4 = .ok (.arraylength, 1) := by decide +kernel
theorem o_h88 : decode jdk_68_method_9_code 5 = .ok (.aload_n 0, 1) := by decide +kernel
theorem o_h89 : decode jdk_68_method_9_code 6 = .ok (.getfield 22, 3) := by decide +kernel
theorem o_h90 : decode jdk_68_method_9_code 9 = .ok (.ishr, 1) := by decide +kernel
theorem o_h91 : decode jdk_68_method_9_code 10 = .ok (.istore_n 2, 1) := by decide +kernel
theorem o_h92 : decode jdk_68_method_9_code 11 = .ok (.iload_n 1, 1) := by decide +kernel
theorem o_h93 : decode jdk_68_method_9_code 12 = .ok (.iload_n 2, 1) := by decide +kernel
theorem o_h94 : decode jdk_68_method_9_code 13 = .ok (.isub, 1) := by decide +kernel
theorem o_h95 : decode jdk_68_method_9_code 14 = .ok (.ifCond .le 24, 3) := by decide +kernel
theorem o_h96 : decode jdk_68_method_9_code 38 = .ok (.return_, 1) := by decide +kernel
theorem rmEn0 (l : Launch) (Z : State) (a0 : Array Value) (hw : ∀ d ∈ tables_1, d.before a0 Z = true) (ws : List Jvm.Cond) (b : Addr) (t : Addr) (kt : ClassId) (cap : Nat) (ds : List Value) (mc : Nat) (h0 : Heap) (n0 : Nat) (Z0 : n0 ≤ h0.size) (f0_ : Fld Z h0 b oA "value" "[B" (.ref t)) (f1_ : Fld Z h0 b oA "coder" "B" (.int (0 : Int32))) (f2_ : Arv Z h0 t kt .byte (Int32.ofNat cap) ds (.int (0 : Int32))) (hle : mc ≤ cap) (hcap : cap ≤ 160)  :
    o_Met l (⟨oA, "ensureCapacityInternal", "(I)V"⟩ : MethodName) jdk_68_method_9_code 3 none ws (rO 0 0 0 0) #[.ref b, (.int (Int32.ofNat mc))] Z h0 (Q_rmEn0 Z b t kt cap ds mc h0 n0) := by
 refine MetFree.of_bodySF (plainFor_of_name o_h33) hisR ?_
 intro p e s m args below meth c s₁ Bd hml0 hP hK
 obtain ⟨rfl, hZ, hh⟩ := hP
 have hx := Bd.exec
 have hby := Bd.bytes
 have hml : c.maxLocals = 3 := hml0
 have hown : s.vm.findClass oA = some m.cls := findClass_of_methodNamed Bd.named
 have hnm := (name_of_methodNamed Bd.named Bd.method).1
 have X0 : Stand p l e (rO 0 0 0 0) s m #[.ref b, (.int (Int32.ofNat mc))] below meth c s₁ [] 0 0 := Stand.of_body Bd
 have e0 : s₁.heap = h0 := by rw [← hh, Bd.state]; rfl
 have N0 := Fr.nil n0
 obtain ⟨B_, hB_⟩ : ∃ z, z = s₁.setTop (entryFrame m #[.ref b, (.int (Int32.ofNat mc))] 3) := ⟨_, rfl⟩
 have k0 : o_K p e below (s₁.setTop (mkF m 0 #[.val (.ref b), .val (.int (Int32.ofNat mc)), .unset] [])) B_ := by rw [hB_]; exact fun t k => castTop (by clear k; first | (simp [entryFrame, mkF, argsToLocals, Value.category, maxLocals]; done) | rfl) k
 have k1 : o_J p e below s₁ m 1 #[vR b, vI (Int32.ofNat mc), .unset] [.ref b] B_ := fun t_ hh => k0 t_ (by
  refine XS.aloadN X0.here hx rfl (hb hby o_h85) rfl rfl ?_
  exact hh)
 obtain ⟨T21, X22, e23, st24⟩ := getF X0 hx hZ hown (host := "") (Or.inl (wT hw 55 rfl)) Via.refl e0 f0_ (g := (mkF m 1 #[vR b, vI (Int32.ofNat mc), .unset] [.ref b])) rfl rfl (hb hby o_h86)
 have k2 : o_J p e below T21 m 4 #[vR b, vI (Int32.ofNat mc), .unset] [.ref t] B_ := fun t_ hh => k1 t_ (st24 t_ hh)
 clear k1 st24
 obtain ⟨cl25, Ar26, -, S27, Ng28, -, -⟩ := id f2_
 have k3 : o_J p e below T21 m 6 #[vR b, vI (Int32.ofNat mc), .unset] [.ref b, (.int (Int32.ofNat cap))] B_ := fun t_ hh => k2 t_ (by
  refine X22.arraylength hx (by rw [e23]; exact Ar26.1) (State.isArrayOf_alike hZ.alike Ar26.2.1) (g := (mkF m 4 #[vR b, vI (Int32.ofNat mc), .unset] [.ref t])) rfl rfl (hb hby o_h87) _ ?_
  rw [len_of S27 Ng28]
  refine XS.aloadN X22.here hx rfl (hb hby o_h88) rfl rfl ?_
  exact hh)
 clear k2
 obtain ⟨T29, X30, e31, st32⟩ := getF X22 hx hZ hown (host := "") (Or.inl (wT hw 57 rfl)) Via.refl e23 f1_ (g := (mkF m 6 #[vR b, vI (Int32.ofNat mc), .unset] [.ref b, (.int (Int32.ofNat cap))])) rfl rfl (hb hby o_h89)
 have k4 : o_J p e below T29 m 9 #[vR b, vI (Int32.ofNat mc), .unset] [(.int 0), (.int (Int32.ofNat cap))] B_ := fun t_ hh => k3 t_ (st32 t_ hh)
 clear k3 st32 X22 e23
 have k5 : o_J p e below T29 m 38 #[vR b, vI (Int32.ofNat mc), vI (Int32.ofNat cap)] [] B_ := fun t_ hh => k4 t_ (by
  refine XS.ishr X30.here hx rfl (hb hby o_h90) rfl ?_
  rw [o_shr0]
  refine XS.istoreN X30.here hx rfl (hb hby o_h91) rfl (l' := #[vR b, vI (Int32.ofNat mc), vI (Int32.ofNat cap)]) rfl ?_
  refine XS.iloadN X30.here hx rfl (hb hby o_h92) rfl ?_
  refine XS.iloadN X30.here hx rfl (hb hby o_h93) rfl ?_
  refine XS.isub X30.here hx rfl (hb hby o_h94) rfl ?_
  refine XS.ifYes X30.here hx rfl (pc0 := 14) (pc' := 38) rfl (hb hby o_h95) rfl (o_ifT_le (o_sub_np hle (by omega))) (by decide) (by decide) ?_
  exact hh)
 clear k4
 obtain ⟨fs, hr, hrun, hended, hW, hsame⟩ := X30.leave (v := none) (fun _ => rfl)
 refine ⟨_, _, (o_from hB_ (k5 _ (X30.returnOut hx Bd.returns (hb hby o_h96) hr))), hrun, hended, _, _, rfl, ?_, ⟨_, rfl⟩, hW, hsame.mono (o_l rfl) (o_l rfl)⟩
 show Q_rmEn0 Z b t kt cap ds mc h0 n0 _ T29.heap _
 rw [e31]
 exact ⟨rfl, N0, rfl⟩
def Q_rmEn1 (Z : State) (b : Addr) (t : Addr) (kt : ClassId) (cap : Nat) (ds : List Value) (n : Nat) (mc : Nat) (h0 : Heap) (n0 : Nat) (v : Option Value) (h : Heap) (L : List Loc) : Prop := ∃ t2 : Addr, ∃ k2 : ClassId, ∃ es : List Value, v = none ∧ Fr n0 L ∧ Keep h0 h [b] ∧ Exa Z h b oB ∧ Fld Z h b oA "value" "[B" (.ref t2) ∧ Fld Z h b oA "coder" "B" (.int (0 : Int32)) ∧ Fld Z h b oA "count" "I" (.int (Int32.ofNat n)) ∧ Arv Z h t2 k2 .byte (Int32.ofNat (o_nc cap mc)) es (.int (0 : Int32)) ∧ Exa Z h t2 "[B" ∧ (es.length = o_nc cap mc ∧ es.take cap = ds) ∧ n0 ≤ t2 ∧ h0.size ≤ t2 ∧ True
theorem o_h97 : decode jdk_68_method_9_code 17 = .ok (.aload_n 0, 1) := by decide +kernel
theorem o_h98 : decode jdk_68_method_9_code 18 = .ok (.aload_n 0, 1) := by decide +kernel
theorem o_h99 : decode jdk_68_method_9_code 19 = .ok (.getfield 15, 3) := by decide +kernel
theorem o_h100 : decode jdk_68_method_9_code 22 = .ok (.aload_n 0, 1) := by decide +kernel
theorem o_h101 : decode jdk_68_method_9_code 23 = .ok (.iload_n 1, 1) := by decide +kernel
theorem o_h102 : decode jdk_68_method_9_code 24 = .ok (.invokevirtual 104, 3) := by decide +kernel
theorem o_h103 : parseMethodDescriptor "(I)I" = some ⟨[.int], some .int⟩ := by decide +kernel
theorem o_h104 : decode jdk_68_method_9_code 27 = .ok (.aload_n 0, 1) := by decide +kernel
theorem o_h105 : decode jdk_68_method_9_code 28 = .ok (.getfield 22, 3) := by decide +kernel
theorem o_h106 : decode jdk_68_method_9_code 31 = .ok (.ishl, 1) := by decide +kernel
theorem o_h107 : decode jdk_68_method_9_code 32 = .ok (.invokestatic 108, 3) := by decide +kernel
theorem o_h108 : parseMethodDescriptor "([BI)[B" = some ⟨[.array .byte, .int], some (.array .byte)⟩ := by decide +kernel
theorem o_h109 : decode jdk_68_method_9_code 35 = .ok (.putfield 15, 3) := by decide +kernel
theorem rmEn1 (l : Launch) (Z : State) (a0 : Array Value) (hw : ∀ d ∈ tables_1, d.before a0 Z = true) (ws : List Jvm.Cond) (b : Addr) (t : Addr) (kt : ClassId) (cap : Nat) (ds : List Value) (n : Nat) (mc : Nat) (h0 : Heap) (n0 : Nat) (Z0 : n0 ≤ h0.size) (f0_ : Exa Z h0 b oB) (f1_ : Fld Z h0 b oA "value" "[B" (.ref t)) (f2_ : Fld Z h0 b oA "coder" "B" (.int (0 : Int32))) (f3_ : Fld Z h0 b oA "count" "I" (.int (Int32.ofNat n))) (f4_ : Arv Z h0 t kt .byte (Int32.ofNat cap) ds (.int (0 : Int32))) (hds : ds.length = cap) (hlt : cap < mc) (hmc : o_nc cap mc ≤ 160) (f8_ : n0 ≤ b) (f9_ : b ≠ t)  :
    o_Met l (⟨oA, "ensureCapacityInternal", "(I)V"⟩ : MethodName) jdk_68_method_9_code 3 none ws (rO 3 1 160 48) #[.ref b, (.int (Int32.ofNat mc))] Z h0 (Q_rmEn1 Z b t kt cap ds n mc h0 n0) := by
 refine MetFree.of_bodySF (plainFor_of_name o_h33) hisR ?_
 intro p e s m args below meth c s₁ Bd hml0 hP hK
 obtain ⟨rfl, hZ, hh⟩ := hP
 have hx := Bd.exec
 have hby := Bd.bytes
 have hml : c.maxLocals = 3 := hml0
 have hown : s.vm.findClass oA = some m.cls := findClass_of_methodNamed Bd.named
 have hnm := (name_of_methodNamed Bd.named Bd.method).1
 have X0 : Stand p l e (rO 3 1 160 48) s m #[.ref b, (.int (Int32.ofNat mc))] below meth c s₁ [] 0 0 := Stand.of_body Bd
 have e0 : s₁.heap = h0 := by rw [← hh, Bd.state]; rfl
 have N0 := Fr.nil n0
 obtain ⟨B_, hB_⟩ : ∃ z, z = s₁.setTop (entryFrame m #[.ref b, (.int (Int32.ofNat mc))] 3) := ⟨_, rfl⟩
 have k0 : o_K p e below (s₁.setTop (mkF m 0 #[.val (.ref b), .val (.int (Int32.ofNat mc)), .unset] [])) B_ := by rw [hB_]; exact fun t k => castTop (by clear k; first | (simp [entryFrame, mkF, argsToLocals, Value.category, maxLocals]; done) | rfl) k
 have K0 : Keep h0 h0 [b] := Keep.refl _ _
 have k1 : o_J p e below s₁ m 1 #[vR b, vI (Int32.ofNat mc), .unset] [.ref b] B_ := fun t_ hh => k0 t_ (by
  refine XS.aloadN X0.here hx rfl (hb hby o_h85) rfl rfl ?_
  exact hh)
 obtain ⟨T21, X22, e23, st24⟩ := getF X0 hx hZ hown (host := "") (Or.inl (wT hw 55 rfl)) Via.refl e0 f1_ (g := (mkF m 1 #[vR b, vI (Int32.ofNat mc), .unset] [.ref b])) rfl rfl (hb hby o_h86)
 have k2 : o_J p e below T21 m 4 #[vR b, vI (Int32.ofNat mc), .unset] [.ref t] B_ := fun t_ hh => k1 t_ (st24 t_ hh)
 clear k1 st24
 obtain ⟨cl25, Ar26, -, S27, Ng28, -, -⟩ := id f4_
 have k3 : o_J p e below T21 m 6 #[vR b, vI (Int32.ofNat mc), .unset] [.ref b, (.int (Int32.ofNat cap))] B_ := fun t_ hh => k2 t_ (by
  refine X22.arraylength hx (by rw [e23]; exact Ar26.1) (State.isArrayOf_alike hZ.alike Ar26.2.1) (g := (mkF m 4 #[vR b, vI (Int32.ofNat mc), .unset] [.ref t])) rfl rfl (hb hby o_h87) _ ?_
  rw [len_of S27 Ng28]
  refine XS.aloadN X22.here hx rfl (hb hby o_h88) rfl rfl ?_
  exact hh)
 clear k2
 obtain ⟨T29, X30, e31, st32⟩ := getF X22 hx hZ hown (host := "") (Or.inl (wT hw 57 rfl)) Via.refl e23 f2_ (g := (mkF m 6 #[vR b, vI (Int32.ofNat mc), .unset] [.ref b, (.int (Int32.ofNat cap))])) rfl rfl (hb hby o_h89)
 have k4 : o_J p e below T29 m 9 #[vR b, vI (Int32.ofNat mc), .unset] [(.int 0), (.int (Int32.ofNat cap))] B_ := fun t_ hh => k3 t_ (st32 t_ hh)
 clear k3 st32 X22 e23
 have k5 : o_J p e below T29 m 19 #[vR b, vI (Int32.ofNat mc), vI (Int32.ofNat cap)] [.ref b, .ref b] B_ := fun t_ hh => k4 t_ (by
  refine XS.ishr X30.here hx rfl (hb hby o_h90) rfl ?_
  rw [o_shr0]
  refine XS.istoreN X30.here hx rfl (hb hby o_h91) rfl (l' := #[vR b, vI (Int32.ofNat mc), vI (Int32.ofNat cap)]) rfl ?_
  refine XS.iloadN X30.here hx rfl (hb hby o_h92) rfl ?_
  refine XS.iloadN X30.here hx rfl (hb hby o_h93) rfl ?_
  refine XS.isub X30.here hx rfl (hb hby o_h94) rfl ?_
  refine XS.ifNo X30.here hx rfl (hb hby o_h95) rfl (o_ifF_le (o_sub_p hlt (Nat.lt_of_le_of_lt (Nat.le_trans o_nc_ge hmc) (o_lt rfl)))) ?_
  refine XS.aloadN X30.here hx rfl (hb hby o_h97) rfl rfl ?_
  refine XS.aloadN X30.here hx rfl (hb hby o_h98) rfl rfl ?_
  exact hh)
 clear k4
 obtain ⟨T33, X34, e35, st36⟩ := getF X30 hx hZ hown (host := "") (Or.inl (wT hw 55 rfl)) Via.refl e31 f1_ (g := (mkF m 19 #[vR b, vI (Int32.ofNat mc), vI (Int32.ofNat cap)] [.ref b, .ref b])) rfl rfl (hb hby o_h99)
 have k6 : o_J p e below T33 m 22 #[vR b, vI (Int32.ofNat mc), vI (Int32.ofNat cap)] [.ref t, .ref b] B_ := fun t_ hh => k5 t_ (st36 t_ hh)
 clear k5 st36 X30 e31
 have k7 : o_J p e below T33 m 24 #[vR b, vI (Int32.ofNat mc), vI (Int32.ofNat cap)] [(.int (Int32.ofNat mc)), .ref b, .ref t, .ref b] B_ := fun t_ hh => k6 t_ (by
  refine XS.aloadN X34.here hx rfl (hb hby o_h100) rfl rfl ?_
  refine XS.iloadN X34.here hx rfl (hb hby o_h101) rfl ?_
  exact hh)
 clear k6
 obtain ⟨cq48, qa49, qb50⟩ := f0_.cell
 obtain ⟨_, _, ⟨T37, L38, k_39, n_40⟩, -, X41, ⟨Lc42, hQ43, l_44, y_45, z_46⟩, st47⟩ := X34.privateBack hx (y := ⟨oA, "newCapacity", "(I)I"⟩) hown (mvT hZ (wT hw 94 rfl)) (mvT hZ (wT hw 95 rfl)) (o_selSelf (mvT hZ (wT hw 97 rfl)) (Cond.privateMethod_at (mvP hZ (wT hw 96 rfl) (args := #[]))) (mvT hZ (wT hw 95 rfl)) (by decide)) (Cond.privateMethod_at (mvP hZ (wT hw 96 rfl) (args := #[]))) (mvT hZ (wT hw 98 rfl)) (by decide) (backOf (W := 2) (rmNc l Z a0 hw [] b t kt cap ds mc h0 n0 Z0 f1_ f2_ f4_ hlt hmc ) hZ (wT hw 98 rfl) (wT hw 51 rfl) (by decide) (by decide)) (g := (mkF m 24 #[vR b, vI (Int32.ofNat mc), vI (Int32.ofNat cap)] [(.int (Int32.ofNat mc)), .ref b, .ref t, .ref b])) rfl (by rw [hml]; rfl) (Steps.refl _) (a := b) (by rw [e35]; exact qa49) qb50 (argsL := [(.int (Int32.ofNat mc))]) (rest := [.ref t, .ref b]) (lenOf o_h103 rfl) rfl (o_w0 rfl) (hb hby o_h102) (fun _ _ => ⟨rfl, e35, o_l rfl, o_l rfl⟩)
 dsimp only [Pt.U, Pt.locs, Pt.cells, Pt.slots] at X41 l_44 y_45 z_46 st47 hQ43
 subst l_44 y_45 z_46
 obtain ⟨rfl, N51, e52⟩ := hQ43
 have N53 := Fr.app N0 N51
 have k8 : o_J p e below T37 m 27 #[vR b, vI (Int32.ofNat mc), vI (Int32.ofNat cap)] [(.int (Int32.ofNat (o_nc cap mc))), .ref t, .ref b] B_ := fun t_ hh => k7 t_ (st47.trans hh)
 clear k7 st47 X34 e35
 have k9 : o_J p e below T37 m 28 #[vR b, vI (Int32.ofNat mc), vI (Int32.ofNat cap)] [.ref b, (.int (Int32.ofNat (o_nc cap mc))), .ref t, .ref b] B_ := fun t_ hh => k8 t_ (by
  refine XS.aloadN X41.here hx rfl (hb hby o_h104) rfl rfl ?_
  exact hh)
 clear k8
 obtain ⟨T54, X55, e56, st57⟩ := getF X41 hx hZ hown (host := "") (Or.inl (wT hw 57 rfl)) Via.refl e52 f2_ (g := (mkF m 28 #[vR b, vI (Int32.ofNat mc), vI (Int32.ofNat cap)] [.ref b, (.int (Int32.ofNat (o_nc cap mc))), .ref t, .ref b])) rfl rfl (hb hby o_h105)
 have k10 : o_J p e below T54 m 31 #[vR b, vI (Int32.ofNat mc), vI (Int32.ofNat cap)] [(.int 0), (.int (Int32.ofNat (o_nc cap mc))), .ref t, .ref b] B_ := fun t_ hh => k9 t_ (st57 t_ hh)
 clear k9 st57 X41 e52
 have k11 : o_J p e below T54 m 32 #[vR b, vI (Int32.ofNat mc), vI (Int32.ofNat cap)] [(.int (Int32.ofNat (o_nc cap mc))), .ref t, .ref b] B_ := fun t_ hh => k10 t_ (by
  refine XS.ishl X55.here hx rfl (hb hby o_h106) rfl ?_
  rw [o_shl0]
  exact hh)
 clear k10
 obtain ⟨_, _, ⟨T58, L59, k_60, n_61⟩, -, X62, ⟨Lc63, hQ64, l_65, y_66, z_67⟩, st68⟩ := Jvm.LawKit.callS X55 hx (y := ⟨"java/util/Arrays", "copyOf", "([BI)[B"⟩) hown (mvT hZ (wT hw 109 rfl)) (mvT hZ (wT hw 110 rfl)) (mvT hZ (wT hw 111 rfl)) (mvT hZ (wT hw 112 rfl)) (by decide) (backOf (W := 1) (rmCp l Z a0 hw [] t kt cap ds (o_nc cap mc) h0 n0 Z0 f4_ hds o_nc_lt hmc ) hZ (wT hw 112 rfl) (wT hw 111 rfl) (by decide) (by decide)) (g := (mkF m 32 #[vR b, vI (Int32.ofNat mc), vI (Int32.ofNat cap)] [(.int (Int32.ofNat (o_nc cap mc))), .ref t, .ref b])) rfl (by rw [hml]; rfl) (argsL := [.ref t, (.int (Int32.ofNat (o_nc cap mc)))]) (rest := [.ref b]) (lenOf o_h108 rfl) rfl (o_w0 rfl) (hb hby o_h107) (fun _ _ => ⟨rfl, e56, o_l rfl, o_l rfl⟩)
 dsimp only [Pt.U, Pt.locs, Pt.cells, Pt.slots] at X62 l_65 y_66 z_67 st68 hQ64
 subst l_65 y_66 z_67
 obtain ⟨t270, k271, es72, rfl, N69, K78, F73, F74, F75, F76, F77, -⟩ := hQ64
 have N79 := Fr.app N53 N69
 have H080 : h0.size ≤ t270 := Nat.le_trans K0.1 F77
 have F81 := f0_.keep K78
 have F82 := f1_.keep K78 nin0
 have F83 := f2_.keep K78 nin0
 have F84 := f3_.keep K78 nin0
 have F85 := f4_.keep K78 nin0
 have Z86 : n0 ≤ T58.heap.size := Nat.le_trans Z0 K78.1
 have P87 : Keep h0 T58.heap [b] := K0.trans K78 (fun _ q => nomatch q)
 have e88 : T58.heap = T58.heap := rfl
 have k12 : o_J p e below T58 m 35 #[vR b, vI (Int32.ofNat mc), vI (Int32.ofNat cap)] [.ref t270, .ref b] B_ := fun t_ hh => k11 t_ (st68 t_ hh)
 clear k11 st68 X55 e56
 obtain ⟨T89, h90, X91, e92, W93, st94⟩ := putF X62 hx hZ hown (host := "") (Or.inl (wT hw 55 rfl)) Via.refl e88 F82 F81 (Or.inl (wT hw 56 rfl)) (wT hw 42 rfl) (ty := .array .byte) (by decide) rfl rfl (g := (mkF m 35 #[vR b, vI (Int32.ofNat mc), vI (Int32.ofNat cap)] [.ref t270, .ref b])) rfl rfl (hb hby o_h109)
 have N95 := Fr.snoc X91 N79 f8_
 have F96 := Exa.wr W93 F81
 have F97 : Fld Z h90 b oA "value" "[B" (.ref t270) := Fld.same W93 F82
 have F98 := Fld.other W93 F83 (Or.inr (slot_ne (Or.inl (wT hw 58 rfl)) (Or.inl (wT hw 56 rfl)) (by decide) (t := .byte) (t' := (.array .byte)) (by decide) (by decide)))
 have F99 := Fld.other W93 F84 (Or.inr (slot_ne (Or.inl (wT hw 88 rfl)) (Or.inl (wT hw 56 rfl)) (by decide) (t := .int) (t' := (.array .byte)) (by decide) (by decide)))
 have F100 := F85.other W93 (Ne.symm f9_)
 have ne102 : b ≠ t270 := Nat.ne_of_lt (Nat.lt_of_lt_of_le f0_.lt F77)
 have F101 := F73.other W93 (Ne.symm ne102)
 have F103 := Exa.wr W93 F74
 have Z104 : n0 ≤ h90.size := W93.size ▸ Z86
 have P105 : Keep h0 h90 [b] := P87.wr W93 (Or.inl (List.mem_of_getElem? (i := 0) rfl))
 have k13 : o_J p e below T89 m 38 #[vR b, vI (Int32.ofNat mc), vI (Int32.ofNat cap)] [] B_ := fun t_ hh => k12 t_ (st94 t_ hh)
 clear k12 st94 X62 e88
 obtain ⟨fs, hr, hrun, hended, hW, hsame⟩ := X91.leave (v := none) (fun _ => rfl)
 refine ⟨_, _, (o_from hB_ (k13 _ (X91.returnOut hx Bd.returns (hb hby o_h96) hr))), hrun, hended, _, _, rfl, ?_, ⟨_, rfl⟩, hW, hsame.mono (o_l rfl) (o_l rfl)⟩
 show Q_rmEn1 Z b t kt cap ds n mc h0 n0 _ T89.heap _
 rw [e92]
 exact ⟨t270, k271, es72, rfl, N95, P105, F96, F97, F98, F99, F101, F103, F75, F76, H080, trivial⟩
def Q_rmCo (Z : State) (a : Addr) (h0 : Heap) (n0 : Nat) (v : Option Value) (h : Heap) (L : List Loc) : Prop := v = some (.int (0 : Int32)) ∧ Fr n0 L ∧ h = h0
theorem o_h110 : plainName oS = true := by first | (simp [plainName, overriddenIn]; done) | decide +kernel
theorem o_h111 : decode jdk_42_method_152_code 0 = .ok (.getstatic 38, 3) := by decide +kernel
theorem o_h112 : decode jdk_42_method_152_code 3 = .ok (.ifCond .eq 10, 3) := by decide +kernel
theorem o_h113 : decode jdk_42_method_152_code 6 = .ok (.aload_n 0, 1) := by decide +kernel
theorem o_h114 : decode jdk_42_method_152_code 7 = .ok (.getfield 15, 3) := by decide +kernel
theorem o_h115 : decode jdk_42_method_152_code 10 = .ok (.goto 4, 3) := by decide +kernel
theorem o_h116 : decode jdk_42_method_152_code 14 = .ok (.ireturn, 1) := by decide +kernel
theorem rmCo (l : Launch) (Z : State) (a0 : Array Value) (hw : ∀ d ∈ tables_1, d.before a0 Z = true) (ws : List Jvm.Cond) (a : Addr) (h0 : Heap) (n0 : Nat) (Z0 : n0 ≤ h0.size) (f0_ : Fld Z h0 a oS "coder" "B" (.int (0 : Int32))) (f1_ : Old Z n0 h0) (ci : Int32) (sC : Sta Z Z.heap oS "COMPACT_STRINGS" "Z" (.int ci)) (hc : ¬ ci = 0) :
    o_Met l (⟨oS, "coder", "()B"⟩ : MethodName) jdk_42_method_152_code 1 (some .byte) ws (rO 0 0 0 0) #[.ref a] Z h0 (Q_rmCo Z a h0 n0) := by
 refine MetFree.of_bodySF (plainFor_of_name o_h110) hisR ?_
 intro p e s m args below meth c s₁ Bd hml0 hP hK
 obtain ⟨rfl, hZ, hh⟩ := hP
 have hx := Bd.exec
 have hby := Bd.bytes
 have hml : c.maxLocals = 1 := hml0
 have hown : s.vm.findClass oS = some m.cls := findClass_of_methodNamed Bd.named
 have hnm := (name_of_methodNamed Bd.named Bd.method).1
 have X0 : Stand p l e (rO 0 0 0 0) s m #[.ref a] below meth c s₁ [] 0 0 := Stand.of_body Bd
 have e0 : s₁.heap = h0 := by rw [← hh, Bd.state]; rfl
 have N0 := Fr.nil n0
 obtain ⟨B_, hB_⟩ : ∃ z, z = s₁.setTop (entryFrame m #[.ref a] 1) := ⟨_, rfl⟩
 have k0 : o_K p e below (s₁.setTop (mkF m 0 #[.val (.ref a)] [])) B_ := by rw [hB_]; exact fun t k => castTop (by clear k; first | (simp [entryFrame, mkF, argsToLocals, Value.category, maxLocals]; done) | rfl) k
 obtain ⟨T21, X22, e23, st24⟩ := getS X0 hx hZ hown (host := "") (wT hw 86 rfl) Via.refl e0 (Sta.ext f1_.2 sC) (g := (mkF m 0 #[vR a] [])) rfl (hb hby o_h111)
 have k1 : o_J p e below T21 m 3 #[vR a] [.int ci] B_ := fun t_ hh => k0 t_ (st24 t_ hh)
 clear st24
 have k2 : o_J p e below T21 m 7 #[vR a] [.ref a] B_ := fun t_ hh => k1 t_ (by
  refine XS.ifNo X22.here hx rfl (hb hby o_h112) rfl (o_ifF_eq hc) ?_
  refine XS.aloadN X22.here hx rfl (hb hby o_h113) rfl rfl ?_
  exact hh)
 clear k1
 obtain ⟨T25, X26, e27, st28⟩ := getF X22 hx hZ hown (host := "") (Or.inl (wT hw 25 rfl)) Via.refl e23 f0_ (g := (mkF m 7 #[vR a] [.ref a])) rfl rfl (hb hby o_h114)
 have k3 : o_J p e below T25 m 10 #[vR a] [(.int 0)] B_ := fun t_ hh => k2 t_ (st28 t_ hh)
 clear k2 st28 X22 e23
 have k4 : o_J p e below T25 m 14 #[vR a] [(.int 0)] B_ := fun t_ hh => k3 t_ (by
  refine XS.goto X26.here hx rfl (pc0 := 10) (pc' := 14) rfl (hb hby o_h115) (by decide) (by decide) ?_
  exact hh)
 clear k3
 obtain ⟨fs, hr, hrun, hended, hW, hsame⟩ := X26.leave (v := some (.int 0)) (fun h => by rw [Bd.returns] at h; cases h)
 refine ⟨_, _, (o_from hB_ (k4 _ (retN X26 hx (t := .byte) Bd.returns (by simp) (hb hby o_h116) hr))), hrun, hended, _, _, rfl, ?_, ⟨_, rfl⟩, hW, hsame.mono (o_l rfl) (o_l rfl)⟩
 show Q_rmCo Z a h0 n0 _ T25.heap _
 rw [e27]
 exact ⟨rfl, N0, rfl⟩
def Q_rmLe (Z : State) (a : Addr) (ta : Addr) (ka : ClassId) (N : Nat) (vs : List Value) (h0 : Heap) (n0 : Nat) (v : Option Value) (h : Heap) (L : List Loc) : Prop := v = some (.int (Int32.ofNat N)) ∧ Fr n0 L ∧ h = h0
theorem o_h117 : decode jdk_42_method_54_code 0 = .ok (.aload_n 0, 1) := by decide +kernel
theorem o_h118 : decode jdk_42_method_54_code 1 = .ok (.getfield 9, 3) := by decide +kernel
theorem o_h119 : decode jdk_42_method_54_code 4 = .ok (.arraylength, 1) := by decide +kernel
theorem o_h120 : decode jdk_42_method_54_code 5 = .ok (.aload_n 0, 1) := by decide +kernel
theorem o_h121 : decode jdk_42_method_54_code 6 = .ok (.invokevirtual 335, 3) := by decide +kernel
theorem o_h122 : parseMethodDescriptor "()B" = some ⟨[], some .byte⟩ := by decide +kernel
theorem o_h123 : decode jdk_42_method_54_code 9 = .ok (.ishr, 1) := by decide +kernel
theorem o_h124 : decode jdk_42_method_54_code 10 = .ok (.ireturn, 1) := by decide +kernel
theorem rmLe (l : Launch) (Z : State) (a0 : Array Value) (hw : ∀ d ∈ tables_1, d.before a0 Z = true) (ws : List Jvm.Cond) (a : Addr) (ta : Addr) (ka : ClassId) (N : Nat) (vs : List Value) (h0 : Heap) (n0 : Nat) (Z0 : n0 ≤ h0.size) (f0_ : Exa Z h0 a oS) (f1_ : Fld Z h0 a oS "value" "[B" (.ref ta)) (f2_ : Fld Z h0 a oS "coder" "B" (.int (0 : Int32))) (f3_ : Arv Z h0 ta ka .byte (Int32.ofNat N) vs (.int (0 : Int32))) (f4_ : Old Z n0 h0) (ci : Int32) (sC : Sta Z Z.heap oS "COMPACT_STRINGS" "Z" (.int ci)) (hc : ¬ ci = 0) :
    o_Met l (⟨oS, "length", "()I"⟩ : MethodName) jdk_42_method_54_code 1 (some .int) ws (rO 1 0 0 13) #[.ref a] Z h0 (Q_rmLe Z a ta ka N vs h0 n0) := by
 refine MetFree.of_bodySF (plainFor_of_name o_h110) hisR ?_
 intro p e s m args below meth c s₁ Bd hml0 hP hK
 obtain ⟨rfl, hZ, hh⟩ := hP
 have hx := Bd.exec
 have hby := Bd.bytes
 have hml : c.maxLocals = 1 := hml0
 have hown : s.vm.findClass oS = some m.cls := findClass_of_methodNamed Bd.named
 have hnm := (name_of_methodNamed Bd.named Bd.method).1
 have X0 : Stand p l e (rO 1 0 0 13) s m #[.ref a] below meth c s₁ [] 0 0 := Stand.of_body Bd
 have e0 : s₁.heap = h0 := by rw [← hh, Bd.state]; rfl
 have N0 := Fr.nil n0
 obtain ⟨B_, hB_⟩ : ∃ z, z = s₁.setTop (entryFrame m #[.ref a] 1) := ⟨_, rfl⟩
 have k0 : o_K p e below (s₁.setTop (mkF m 0 #[.val (.ref a)] [])) B_ := by rw [hB_]; exact fun t k => castTop (by clear k; first | (simp [entryFrame, mkF, argsToLocals, Value.category, maxLocals]; done) | rfl) k
 have k1 : o_J p e below s₁ m 1 #[vR a] [.ref a] B_ := fun t_ hh => k0 t_ (by
  refine XS.aloadN X0.here hx rfl (hb hby o_h117) rfl rfl ?_
  exact hh)
 obtain ⟨T21, X22, e23, st24⟩ := getF X0 hx hZ hown (host := "") (Or.inl (wT hw 24 rfl)) Via.refl e0 f1_ (g := (mkF m 1 #[vR a] [.ref a])) rfl rfl (hb hby o_h118)
 have k2 : o_J p e below T21 m 4 #[vR a] [.ref ta] B_ := fun t_ hh => k1 t_ (st24 t_ hh)
 clear k1 st24
 obtain ⟨cl25, Ar26, -, S27, Ng28, -, -⟩ := id f3_
 have k3 : o_J p e below T21 m 6 #[vR a] [.ref a, (.int (Int32.ofNat N))] B_ := fun t_ hh => k2 t_ (by
  refine X22.arraylength hx (by rw [e23]; exact Ar26.1) (State.isArrayOf_alike hZ.alike Ar26.2.1) (g := (mkF m 4 #[vR a] [.ref ta])) rfl rfl (hb hby o_h119) _ ?_
  rw [len_of S27 Ng28]
  refine XS.aloadN X22.here hx rfl (hb hby o_h120) rfl rfl ?_
  exact hh)
 clear k2
 obtain ⟨cq40, kq41, qa42, qb43, qc44⟩ := isOf hZ e23 f0_
 obtain ⟨_, _, ⟨T29, L30, k_31, n_32⟩, -, X33, ⟨Lc34, hQ35, l_36, y_37, z_38⟩, st39⟩ := X22.virtualBack hx (y := ⟨oS, "coder", "()B"⟩) (z := ⟨oS, "coder", "()B"⟩) hown (mvT hZ (wT hw 81 rfl)) (mvT hZ (wT hw 82 rfl)) (notFace_of_selects (args := #[]) (mvT hZ (wT hw 84 rfl))) (mvT hZ (wT hw 84 rfl)) (mvT hZ (wT hw 83 rfl)) (by decide) (backOf (W := 1) (rmCo l Z a0 hw [] a h0 n0 Z0 f2_ f4_ ci sC hc) hZ (wT hw 85 rfl) (wT hw 6 rfl) (by decide) (by decide)) qa42 qc44 (g := (mkF m 6 #[vR a] [.ref a, (.int (Int32.ofNat N))])) rfl (by rw [hml]; rfl) (Steps.refl _) (argsL := []) (rest := [(.int (Int32.ofNat N))]) (lenOf o_h122 rfl) rfl (o_w0 rfl) (hb hby o_h121) (fun _ _ => ⟨rfl, e23, o_l rfl, o_l rfl⟩)
 dsimp only [Pt.U, Pt.locs, Pt.cells, Pt.slots] at X33 l_36 y_37 z_38 st39 hQ35
 subst l_36 y_37 z_38
 obtain ⟨rfl, N45, e46⟩ := hQ35
 have N47 := Fr.app N0 N45
 have k4 : o_J p e below T29 m 9 #[vR a] [(.int 0), (.int (Int32.ofNat N))] B_ := fun t_ hh => k3 t_ (st39.trans hh)
 clear k3 st39 X22 e23
 have k5 : o_J p e below T29 m 10 #[vR a] [(.int (Int32.ofNat N))] B_ := fun t_ hh => k4 t_ (by
  refine XS.ishr X33.here hx rfl (hb hby o_h123) rfl ?_
  rw [o_shr0]
  exact hh)
 clear k4
 obtain ⟨fs, hr, hrun, hended, hW, hsame⟩ := X33.leave (v := some (.int (Int32.ofNat N))) (fun h => by rw [Bd.returns] at h; cases h)
 refine ⟨_, _, (o_from hB_ (k5 _ (retOut X33 hx (t := .int) Bd.returns rfl (Or.inl ⟨rfl, (by simp), _, rfl⟩) (hb hby o_h124) hr))), hrun, hended, _, _, rfl, ?_, ⟨_, rfl⟩, hW, hsame.mono (o_l rfl) (o_l rfl)⟩
 show Q_rmLe Z a ta ka N vs h0 n0 _ T29.heap _
 rw [e46]
 exact ⟨rfl, N47, rfl⟩
def Q_rmGb (Z : State) (a : Addr) (ta : Addr) (ka : ClassId) (N : Nat) (vs : List Value) (t : Addr) (kt : ClassId) (cap : Nat) (ds : List Value) (n : Nat) (h0 : Heap) (n0 : Nat) (v : Option Value) (h : Heap) (L : List Loc) : Prop := ∃ es : List Value, v = none ∧ Fr n0 L ∧ Keep h0 h [t] ∧ Arv Z h t kt .byte (Int32.ofNat cap) es (.int (0 : Int32)) ∧ (es.length = cap ∧ es.take (n + N) = ds.take n ++ vs) ∧ True
theorem o_h125 : decode jdk_42_method_147_code 0 = .ok (.aload_n 0, 1) := by decide +kernel
theorem o_h126 : decode jdk_42_method_147_code 1 = .ok (.invokevirtual 335, 3) := by decide +kernel
theorem o_h127 : decode jdk_42_method_147_code 4 = .ok (.iload_n 3, 1) := by decide +kernel
theorem o_h128 : decode jdk_42_method_147_code 5 = .ok (.if_icmp .ne 23, 3) := by decide +kernel
theorem o_h129 : decode jdk_42_method_147_code 8 = .ok (.aload_n 0, 1) := by decide +kernel
theorem o_h130 : decode jdk_42_method_147_code 9 = .ok (.getfield 9, 3) := by decide +kernel
theorem o_h131 : decode jdk_42_method_147_code 12 = .ok (.iconst 0, 1) := by decide +kernel
theorem o_h132 : decode jdk_42_method_147_code 13 = .ok (.aload_n 1, 1) := by decide +kernel
theorem o_h133 : decode jdk_42_method_147_code 14 = .ok (.iload_n 2, 1) := by decide +kernel
theorem o_h134 : decode jdk_42_method_147_code 15 = .ok (.iload_n 3, 1) := by decide +kernel
theorem o_h135 : decode jdk_42_method_147_code 16 = .ok (.ishl, 1) := by decide +kernel
theorem o_h136 : decode jdk_42_method_147_code 17 = .ok (.aload_n 0, 1) := by decide +kernel
theorem o_h137 : decode jdk_42_method_147_code 18 = .ok (.getfield 9, 3) := by decide +kernel
theorem o_h138 : decode jdk_42_method_147_code 21 = .ok (.arraylength, 1) := by decide +kernel
theorem o_h139 : decode jdk_42_method_147_code 22 = .ok (.invokestatic 212, 3) := by decide +kernel
theorem o_h140 : decode jdk_42_method_147_code 25 = .ok (.goto 18, 3) := by decide +kernel
theorem o_h141 : decode jdk_42_method_147_code 43 = .ok (.return_, 1) := by decide +kernel
theorem rmGb (l : Launch) (Z : State) (a0 : Array Value) (hw : ∀ d ∈ tables_1, d.before a0 Z = true) (ws : List Jvm.Cond) (a : Addr) (ta : Addr) (ka : ClassId) (N : Nat) (vs : List Value) (t : Addr) (kt : ClassId) (cap : Nat) (ds : List Value) (n : Nat) (h0 : Heap) (n0 : Nat) (Z0 : n0 ≤ h0.size) (f0_ : Exa Z h0 a oS) (f1_ : Fld Z h0 a oS "value" "[B" (.ref ta)) (f2_ : Fld Z h0 a oS "coder" "B" (.int (0 : Int32))) (f3_ : Arv Z h0 ta ka .byte (Int32.ofNat N) vs (.int (0 : Int32))) (f4_ : Arv Z h0 t kt .byte (Int32.ofNat cap) ds (.int (0 : Int32))) (hvs : vs.length = N) (hds : ds.length = cap) (hfit : n + N ≤ cap) (hcap : cap ≤ 160) (f9_ : n0 ≤ t) (f10_ : ta ≠ t) (f11_ : a ≠ t) (f12_ : Old Z n0 h0) (ci : Int32) (sC : Sta Z Z.heap oS "COMPACT_STRINGS" "Z" (.int ci)) (hc : ¬ ci = 0) :
    o_Met l (⟨oS, "getBytes", "([BIB)V"⟩ : MethodName) jdk_42_method_147_code 4 none ws (rO 1 0 0 18) #[.ref a, .ref t, (.int (Int32.ofNat n)), (.int 0)] Z h0 (Q_rmGb Z a ta ka N vs t kt cap ds n h0 n0) := by
 refine MetFree.of_bodySF (plainFor_of_name o_h110) hisR ?_
 intro p e s m args below meth c s₁ Bd hml0 hP hK
 obtain ⟨rfl, hZ, hh⟩ := hP
 have hx := Bd.exec
 have hby := Bd.bytes
 have hml : c.maxLocals = 4 := hml0
 have hown : s.vm.findClass oS = some m.cls := findClass_of_methodNamed Bd.named
 have hnm := (name_of_methodNamed Bd.named Bd.method).1
 have X0 : Stand p l e (rO 1 0 0 18) s m #[.ref a, .ref t, (.int (Int32.ofNat n)), (.int 0)] below meth c s₁ [] 0 0 := Stand.of_body Bd
 have e0 : s₁.heap = h0 := by rw [← hh, Bd.state]; rfl
 have N0 := Fr.nil n0
 obtain ⟨B_, hB_⟩ : ∃ z, z = s₁.setTop (entryFrame m #[.ref a, .ref t, (.int (Int32.ofNat n)), (.int 0)] 4) := ⟨_, rfl⟩
 have k0 : o_K p e below (s₁.setTop (mkF m 0 #[.val (.ref a), .val (.ref t), .val (.int (Int32.ofNat n)), .val (.int 0)] [])) B_ := by rw [hB_]; exact fun t k => castTop (by clear k; first | (simp [entryFrame, mkF, argsToLocals, Value.category, maxLocals]; done) | rfl) k
 have K0 : Keep h0 h0 [t] := Keep.refl _ _
 have k1 : o_J p e below s₁ m 1 #[vR a, vR t, vI (Int32.ofNat n), vI (0 : Int32)] [.ref a] B_ := fun t_ hh => k0 t_ (by
  refine XS.aloadN X0.here hx rfl (hb hby o_h125) rfl rfl ?_
  exact hh)
 obtain ⟨cq32, kq33, qa34, qb35, qc36⟩ := isOf hZ e0 f0_
 obtain ⟨_, _, ⟨T21, L22, k_23, n_24⟩, -, X25, ⟨Lc26, hQ27, l_28, y_29, z_30⟩, st31⟩ := X0.virtualBack hx (y := ⟨oS, "coder", "()B"⟩) (z := ⟨oS, "coder", "()B"⟩) hown (mvT hZ (wT hw 81 rfl)) (mvT hZ (wT hw 82 rfl)) (notFace_of_selects (args := #[]) (mvT hZ (wT hw 84 rfl))) (mvT hZ (wT hw 84 rfl)) (mvT hZ (wT hw 83 rfl)) (by decide) (backOf (W := 0) (rmCo l Z a0 hw [] a h0 n0 Z0 f2_ f12_ ci sC hc) hZ (wT hw 85 rfl) (wT hw 6 rfl) (by decide) (by decide)) qa34 qc36 (g := (mkF m 1 #[vR a, vR t, vI (Int32.ofNat n), vI (0 : Int32)] [.ref a])) rfl (by rw [hml]; rfl) (Steps.refl _) (argsL := []) (rest := []) (lenOf o_h122 rfl) rfl (o_w0 rfl) (hb hby o_h126) (fun _ _ => ⟨rfl, e0, o_l rfl, o_l rfl⟩)
 dsimp only [Pt.U, Pt.locs, Pt.cells, Pt.slots] at X25 l_28 y_29 z_30 st31 hQ27
 subst l_28 y_29 z_30
 obtain ⟨rfl, N37, e38⟩ := hQ27
 have N39 := Fr.app N0 N37
 have k2 : o_J p e below T21 m 4 #[vR a, vR t, vI (Int32.ofNat n), vI (0 : Int32)] [(.int 0)] B_ := fun t_ hh => k1 t_ (st31.trans hh)
 clear k1 st31
 have k3 : o_J p e below T21 m 9 #[vR a, vR t, vI (Int32.ofNat n), vI (0 : Int32)] [.ref a] B_ := fun t_ hh => k2 t_ (by
  refine XS.iloadN X25.here hx rfl (hb hby o_h127) rfl ?_
  refine XS.icmpNo X25.here hx rfl (hb hby o_h128) rfl (by decide) ?_
  refine XS.aloadN X25.here hx rfl (hb hby o_h129) rfl rfl ?_
  exact hh)
 clear k2
 obtain ⟨T40, X41, e42, st43⟩ := getF X25 hx hZ hown (host := "") (Or.inl (wT hw 24 rfl)) Via.refl e38 f1_ (g := (mkF m 9 #[vR a, vR t, vI (Int32.ofNat n), vI (0 : Int32)] [.ref a])) rfl rfl (hb hby o_h130)
 have k4 : o_J p e below T40 m 12 #[vR a, vR t, vI (Int32.ofNat n), vI (0 : Int32)] [.ref ta] B_ := fun t_ hh => k3 t_ (st43 t_ hh)
 clear k3 st43 X25 e38
 have k5 : o_J p e below T40 m 18 #[vR a, vR t, vI (Int32.ofNat n), vI (0 : Int32)] [.ref a, (.int (Int32.ofNat n)), .ref t, (.int 0), .ref ta] B_ := fun t_ hh => k4 t_ (by
  refine XS.iconst X41.here hx rfl (hb hby o_h131) ?_
  refine XS.aloadN X41.here hx rfl (hb hby o_h132) rfl rfl ?_
  refine XS.iloadN X41.here hx rfl (hb hby o_h133) rfl ?_
  refine XS.iloadN X41.here hx rfl (hb hby o_h134) rfl ?_
  refine XS.ishl X41.here hx rfl (hb hby o_h135) rfl ?_
  rw [o_shl0]
  refine XS.aloadN X41.here hx rfl (hb hby o_h136) rfl rfl ?_
  exact hh)
 clear k4
 obtain ⟨T44, X45, e46, st47⟩ := getF X41 hx hZ hown (host := "") (Or.inl (wT hw 24 rfl)) Via.refl e42 f1_ (g := (mkF m 18 #[vR a, vR t, vI (Int32.ofNat n), vI (0 : Int32)] [.ref a, (.int (Int32.ofNat n)), .ref t, (.int 0), .ref ta])) rfl rfl (hb hby o_h137)
 have k6 : o_J p e below T44 m 21 #[vR a, vR t, vI (Int32.ofNat n), vI (0 : Int32)] [.ref ta, (.int (Int32.ofNat n)), .ref t, (.int 0), .ref ta] B_ := fun t_ hh => k5 t_ (st47 t_ hh)
 clear k5 st47 X41 e42
 obtain ⟨cl48, Ar49, -, S50, Ng51, -, -⟩ := id f3_
 have k7 : o_J p e below T44 m 22 #[vR a, vR t, vI (Int32.ofNat n), vI (0 : Int32)] [(.int (Int32.ofNat N)), (.int (Int32.ofNat n)), .ref t, (.int 0), .ref ta] B_ := fun t_ hh => k6 t_ (by
  refine X45.arraylength hx (by rw [e46]; exact Ar49.1) (State.isArrayOf_alike hZ.alike Ar49.2.1) (g := (mkF m 21 #[vR a, vR t, vI (Int32.ofNat n), vI (0 : Int32)] [.ref ta, (.int (Int32.ofNat n)), .ref t, (.int 0), .ref ta])) rfl rfl (hb hby o_h138) _ ?_
  rw [len_of S50 Ng51]
  exact hh)
 clear k6
 obtain ⟨T52, h53, L54, X55, e56, N57, K58, F59, st60⟩ := o_cp X45 hx hZ hown (wT hw 136 rfl) (wT hw 119 rfl) (wT hw 117 rfl) (wT hw 118 rfl) e46 (dp := n) (nn := N) f3_ f4_ rfl (Nat.le_refl _) hfit (by omega) (by omega) (by omega) hds N39 f9_ (g := (mkF m 22 #[vR a, vR t, vI (Int32.ofNat n), vI (0 : Int32)] [(.int (Int32.ofNat N)), (.int (Int32.ofNat n)), .ref t, (.int 0), .ref ta])) rfl (by rw [hml]; rfl) (rest := []) rfl (hb hby o_h139) (by decide) (W := 0) (o_w0 rfl) (by decide)
 have F61 := f0_.keep K58
 have F62 := f1_.keep K58 (ninS f11_ nin0)
 have F63 := f2_.keep K58 (ninS f11_ nin0)
 have F64 := f3_.keep K58 (ninS f10_ nin0)
 have Z65 : n0 ≤ h53.size := Nat.le_trans Z0 K58.1
 have O66 := f12_.keep K58 (allS f9_ all0)
 have P67 : Keep h0 h53 [t] := K0.trans K58 (allS (P := fun x => x ∈ [t] ∨ h0.size ≤ x) (Or.inl (List.mem_of_getElem? (i := 0) rfl)) all0)
 have k8 : o_J p e below T52 m 25 #[vR a, vR t, vI (Int32.ofNat n), vI (0 : Int32)] [] B_ := fun t_ hh => k7 t_ (st60 t_ hh)
 clear k7 st60 X45 e46
 have k9 : o_J p e below T52 m 43 #[vR a, vR t, vI (Int32.ofNat n), vI (0 : Int32)] [] B_ := fun t_ hh => k8 t_ (by
  refine XS.goto X55.here hx rfl (pc0 := 25) (pc' := 43) rfl (hb hby o_h140) (by decide) (by decide) ?_
  exact hh)
 clear k8
 obtain ⟨fs, hr, hrun, hended, hW, hsame⟩ := X55.leave (v := none) (fun _ => rfl)
 refine ⟨_, _, (o_from hB_ (k9 _ (X55.returnOut hx Bd.returns (hb hby o_h141) hr))), hrun, hended, _, _, rfl, ?_, ⟨_, rfl⟩, hW, hsame.mono (o_l rfl) (o_l rfl)⟩
 show Q_rmGb Z a ta ka N vs t kt cap ds n h0 n0 _ T52.heap _
 rw [e56]
 exact ⟨(List.take n ds ++ List.take N vs ++ List.drop (n + N) ds), rfl, N57, P67, F59, (o_put_es hds hvs hfit), trivial⟩
def Q_rmIn (Z : State) (b : Addr) (a : Addr) (h0 : Heap) (n0 : Nat) (v : Option Value) (h : Heap) (L : List Loc) : Prop := v = none ∧ Fr n0 L ∧ h = h0
theorem o_h142 : decode jdk_68_method_71_code 0 = .ok (.getstatic 18, 3) := by decide +kernel
theorem o_h143 : decode jdk_68_method_71_code 3 = .ok (.ifCond .eq 18, 3) := by decide +kernel
theorem o_h144 : decode jdk_68_method_71_code 6 = .ok (.aload_n 0, 1) := by decide +kernel
theorem o_h145 : decode jdk_68_method_71_code 7 = .ok (.getfield 22, 3) := by decide +kernel
theorem o_h146 : decode jdk_68_method_71_code 10 = .ok (.aload_n 1, 1) := by decide +kernel
theorem o_h147 : decode jdk_68_method_71_code 11 = .ok (.invokevirtual 40, 3) := by decide +kernel
theorem o_h148 : decode jdk_68_method_71_code 14 = .ok (.if_icmp .eq 7, 3) := by decide +kernel
theorem o_h149 : decode jdk_68_method_71_code 21 = .ok (.return_, 1) := by decide +kernel
theorem rmIn (l : Launch) (Z : State) (a0 : Array Value) (hw : ∀ d ∈ tables_1, d.before a0 Z = true) (ws : List Jvm.Cond) (b : Addr) (a : Addr) (h0 : Heap) (n0 : Nat) (Z0 : n0 ≤ h0.size) (f0_ : Fld Z h0 b oA "coder" "B" (.int (0 : Int32))) (f1_ : Exa Z h0 a oS) (f2_ : Fld Z h0 a oS "coder" "B" (.int (0 : Int32))) (f3_ : Old Z n0 h0) (ci : Int32) (sC : Sta Z Z.heap oS "COMPACT_STRINGS" "Z" (.int ci)) (hc : ¬ ci = 0) :
    o_Met l (⟨oA, "inflateIfNeededFor", "(Ljava/lang/String;)V"⟩ : MethodName) jdk_68_method_71_code 2 none ws (rO 1 0 0 13) #[.ref b, .ref a] Z h0 (Q_rmIn Z b a h0 n0) := by
 refine MetFree.of_bodySF (plainFor_of_name o_h33) hisR ?_
 intro p e s m args below meth c s₁ Bd hml0 hP hK
 obtain ⟨rfl, hZ, hh⟩ := hP
 have hx := Bd.exec
 have hby := Bd.bytes
 have hml : c.maxLocals = 2 := hml0
 have hown : s.vm.findClass oA = some m.cls := findClass_of_methodNamed Bd.named
 have hnm := (name_of_methodNamed Bd.named Bd.method).1
 have X0 : Stand p l e (rO 1 0 0 13) s m #[.ref b, .ref a] below meth c s₁ [] 0 0 := Stand.of_body Bd
 have e0 : s₁.heap = h0 := by rw [← hh, Bd.state]; rfl
 have N0 := Fr.nil n0
 obtain ⟨B_, hB_⟩ : ∃ z, z = s₁.setTop (entryFrame m #[.ref b, .ref a] 2) := ⟨_, rfl⟩
 have k0 : o_K p e below (s₁.setTop (mkF m 0 #[.val (.ref b), .val (.ref a)] [])) B_ := by rw [hB_]; exact fun t k => castTop (by clear k; first | (simp [entryFrame, mkF, argsToLocals, Value.category, maxLocals]; done) | rfl) k
 obtain ⟨T21, X22, e23, st24⟩ := getS X0 hx hZ hown (host := "") (wT hw 54 rfl) Via.refl e0 (Sta.ext f3_.2 sC) (g := (mkF m 0 #[vR b, vR a] [])) rfl (hb hby o_h142)
 have k1 : o_J p e below T21 m 3 #[vR b, vR a] [.int ci] B_ := fun t_ hh => k0 t_ (st24 t_ hh)
 clear st24
 have k2 : o_J p e below T21 m 7 #[vR b, vR a] [.ref b] B_ := fun t_ hh => k1 t_ (by
  refine XS.ifNo X22.here hx rfl (hb hby o_h143) rfl (o_ifF_eq hc) ?_
  refine XS.aloadN X22.here hx rfl (hb hby o_h144) rfl rfl ?_
  exact hh)
 clear k1
 obtain ⟨T25, X26, e27, st28⟩ := getF X22 hx hZ hown (host := "") (Or.inl (wT hw 57 rfl)) Via.refl e23 f0_ (g := (mkF m 7 #[vR b, vR a] [.ref b])) rfl rfl (hb hby o_h145)
 have k3 : o_J p e below T25 m 10 #[vR b, vR a] [(.int 0)] B_ := fun t_ hh => k2 t_ (st28 t_ hh)
 clear k2 st28 X22 e23
 have k4 : o_J p e below T25 m 11 #[vR b, vR a] [.ref a, (.int 0)] B_ := fun t_ hh => k3 t_ (by
  refine XS.aloadN X26.here hx rfl (hb hby o_h146) rfl rfl ?_
  exact hh)
 clear k3
 obtain ⟨cq40, kq41, qa42, qb43, qc44⟩ := isOf hZ e27 f1_
 obtain ⟨_, _, ⟨T29, L30, k_31, n_32⟩, -, X33, ⟨Lc34, hQ35, l_36, y_37, z_38⟩, st39⟩ := X26.virtualBack hx (y := ⟨oS, "coder", "()B"⟩) (z := ⟨oS, "coder", "()B"⟩) hown (mvT hZ (wT hw 130 rfl)) (mvT hZ (wT hw 82 rfl)) (notFace_of_selects (args := #[]) (mvT hZ (wT hw 84 rfl))) (mvT hZ (wT hw 84 rfl)) (mvT hZ (wT hw 83 rfl)) (by decide) (backOf (W := 1) (rmCo l Z a0 hw [] a h0 n0 Z0 f2_ f3_ ci sC hc) hZ (wT hw 85 rfl) (wT hw 6 rfl) (by decide) (by decide)) qa42 qc44 (g := (mkF m 11 #[vR b, vR a] [.ref a, (.int 0)])) rfl (by rw [hml]; rfl) (Steps.refl _) (argsL := []) (rest := [(.int 0)]) (lenOf o_h122 rfl) rfl (o_w0 rfl) (hb hby o_h147) (fun _ _ => ⟨rfl, e27, o_l rfl, o_l rfl⟩)
 dsimp only [Pt.U, Pt.locs, Pt.cells, Pt.slots] at X33 l_36 y_37 z_38 st39 hQ35
 subst l_36 y_37 z_38
 obtain ⟨rfl, N45, e46⟩ := hQ35
 have N47 := Fr.app N0 N45
 have k5 : o_J p e below T29 m 14 #[vR b, vR a] [(.int 0), (.int 0)] B_ := fun t_ hh => k4 t_ (st39.trans hh)
 clear k4 st39 X26 e27
 have k6 : o_J p e below T29 m 21 #[vR b, vR a] [] B_ := fun t_ hh => k5 t_ (by
  refine XS.icmpYes X33.here hx rfl (pc0 := 14) (pc' := 21) rfl (hb hby o_h148) rfl (by decide) (by decide) (by decide) ?_
  exact hh)
 clear k5
 obtain ⟨fs, hr, hrun, hended, hW, hsame⟩ := X33.leave (v := none) (fun _ => rfl)
 refine ⟨_, _, (o_from hB_ (k6 _ (X33.returnOut hx Bd.returns (hb hby o_h149) hr))), hrun, hended, _, _, rfl, ?_, ⟨_, rfl⟩, hW, hsame.mono (o_l rfl) (o_l rfl)⟩
 show Q_rmIn Z b a h0 n0 _ T29.heap _
 rw [e46]
 exact ⟨rfl, N47, rfl⟩
def Q_rmPs (Z : State) (b : Addr) (a : Addr) (ta : Addr) (ka : ClassId) (N : Nat) (vs : List Value) (t : Addr) (kt : ClassId) (cap : Nat) (ds : List Value) (n : Nat) (h0 : Heap) (n0 : Nat) (v : Option Value) (h : Heap) (L : List Loc) : Prop := ∃ es : List Value, v = none ∧ Fr n0 L ∧ Keep h0 h [t] ∧ Arv Z h t kt .byte (Int32.ofNat cap) es (.int (0 : Int32)) ∧ (es.length = cap ∧ es.take (n + N) = ds.take n ++ vs) ∧ True
theorem o_h150 : decode jdk_68_method_73_code 0 = .ok (.aload_n 0, 1) := by decide +kernel
theorem o_h151 : decode jdk_68_method_73_code 1 = .ok (.aload_n 2, 1) := by decide +kernel
theorem o_h152 : decode jdk_68_method_73_code 2 = .ok (.invokevirtual 397, 3) := by decide +kernel
theorem o_h153 : parseMethodDescriptor "(Ljava/lang/String;)V" = some ⟨[.object oS], none⟩ := by decide +kernel
theorem o_h154 : decode jdk_68_method_73_code 5 = .ok (.aload_n 2, 1) := by decide +kernel
theorem o_h155 : decode jdk_68_method_73_code 6 = .ok (.aload_n 0, 1) := by decide +kernel
theorem o_h156 : decode jdk_68_method_73_code 7 = .ok (.getfield 15, 3) := by decide +kernel
theorem o_h157 : decode jdk_68_method_73_code 10 = .ok (.iload_n 1, 1) := by decide +kernel
theorem o_h158 : decode jdk_68_method_73_code 11 = .ok (.aload_n 0, 1) := by decide +kernel
theorem o_h159 : decode jdk_68_method_73_code 12 = .ok (.getfield 22, 3) := by decide +kernel
theorem o_h160 : decode jdk_68_method_73_code 15 = .ok (.invokevirtual 399, 3) := by decide +kernel
theorem o_h161 : parseMethodDescriptor "([BIB)V" = some ⟨[.array .byte, .int, .byte], none⟩ := by decide +kernel
theorem o_h162 : decode jdk_68_method_73_code 18 = .ok (.return_, 1) := by decide +kernel
theorem rmPs (l : Launch) (Z : State) (a0 : Array Value) (hw : ∀ d ∈ tables_1, d.before a0 Z = true) (ws : List Jvm.Cond) (b : Addr) (a : Addr) (ta : Addr) (ka : ClassId) (N : Nat) (vs : List Value) (t : Addr) (kt : ClassId) (cap : Nat) (ds : List Value) (n : Nat) (h0 : Heap) (n0 : Nat) (Z0 : n0 ≤ h0.size) (f0_ : Exa Z h0 b oB) (f1_ : Fld Z h0 b oA "value" "[B" (.ref t)) (f2_ : Fld Z h0 b oA "coder" "B" (.int (0 : Int32))) (f3_ : Exa Z h0 a oS) (f4_ : Fld Z h0 a oS "value" "[B" (.ref ta)) (f5_ : Fld Z h0 a oS "coder" "B" (.int (0 : Int32))) (f6_ : Arv Z h0 ta ka .byte (Int32.ofNat N) vs (.int (0 : Int32))) (f7_ : Arv Z h0 t kt .byte (Int32.ofNat cap) ds (.int (0 : Int32))) (hvs : vs.length = N) (hds : ds.length = cap) (hfit : n + N ≤ cap) (hcap : cap ≤ 160) (f12_ : n0 ≤ t) (f13_ : ta ≠ t) (f14_ : a ≠ t) (f15_ : Old Z n0 h0) (f16_ : b ≠ t) (ci : Int32) (sC : Sta Z Z.heap oS "COMPACT_STRINGS" "Z" (.int ci)) (hc : ¬ ci = 0) :
    o_Met l (⟨oA, "putStringAt", "(ILjava/lang/String;)V"⟩ : MethodName) jdk_68_method_73_code 3 none ws (rO 2 0 0 33) #[.ref b, (.int (Int32.ofNat n)), .ref a] Z h0 (Q_rmPs Z b a ta ka N vs t kt cap ds n h0 n0) := by
 refine MetFree.of_bodySF (plainFor_of_name o_h33) hisR ?_
 intro p e s m args below meth c s₁ Bd hml0 hP hK
 obtain ⟨rfl, hZ, hh⟩ := hP
 have hx := Bd.exec
 have hby := Bd.bytes
 have hml : c.maxLocals = 3 := hml0
 have hown : s.vm.findClass oA = some m.cls := findClass_of_methodNamed Bd.named
 have hnm := (name_of_methodNamed Bd.named Bd.method).1
 have X0 : Stand p l e (rO 2 0 0 33) s m #[.ref b, (.int (Int32.ofNat n)), .ref a] below meth c s₁ [] 0 0 := Stand.of_body Bd
 have e0 : s₁.heap = h0 := by rw [← hh, Bd.state]; rfl
 have N0 := Fr.nil n0
 obtain ⟨B_, hB_⟩ : ∃ z, z = s₁.setTop (entryFrame m #[.ref b, (.int (Int32.ofNat n)), .ref a] 3) := ⟨_, rfl⟩
 have k0 : o_K p e below (s₁.setTop (mkF m 0 #[.val (.ref b), .val (.int (Int32.ofNat n)), .val (.ref a)] [])) B_ := by rw [hB_]; exact fun t k => castTop (by clear k; first | (simp [entryFrame, mkF, argsToLocals, Value.category, maxLocals]; done) | rfl) k
 have K0 : Keep h0 h0 [t] := Keep.refl _ _
 have k1 : o_J p e below s₁ m 2 #[vR b, vI (Int32.ofNat n), vR a] [.ref a, .ref b] B_ := fun t_ hh => k0 t_ (by
  refine XS.aloadN X0.here hx rfl (hb hby o_h150) rfl rfl ?_
  refine XS.aloadN X0.here hx rfl (hb hby o_h151) rfl rfl ?_
  exact hh)
 obtain ⟨cq32, qa33, qb34⟩ := f0_.cell
 obtain ⟨_, _, ⟨T21, L22, k_23, n_24⟩, -, X25, ⟨Lc26, hQ27, l_28, y_29, z_30⟩, st31⟩ := X0.privateBack hx (y := ⟨oA, "inflateIfNeededFor", "(Ljava/lang/String;)V"⟩) hown (mvT hZ (wT hw 125 rfl)) (mvT hZ (wT hw 126 rfl)) (o_selSelf (mvT hZ (wT hw 128 rfl)) (Cond.privateMethod_at (mvP hZ (wT hw 127 rfl) (args := #[]))) (mvT hZ (wT hw 126 rfl)) (by decide)) (Cond.privateMethod_at (mvP hZ (wT hw 127 rfl) (args := #[]))) (mvT hZ (wT hw 129 rfl)) (by decide) (backOf (W := 0) (rmIn l Z a0 hw [] b a h0 n0 Z0 f2_ f3_ f5_ f15_ ci sC hc) hZ (wT hw 129 rfl) (wT hw 51 rfl) (by decide) (by decide)) (g := (mkF m 2 #[vR b, vI (Int32.ofNat n), vR a] [.ref a, .ref b])) rfl (by rw [hml]; rfl) (Steps.refl _) (a := b) (by rw [e0]; exact qa33) qb34 (argsL := [.ref a]) (rest := []) (lenOf o_h153 rfl) rfl (o_w0 rfl) (hb hby o_h152) (fun _ _ => ⟨rfl, e0, o_l rfl, o_l rfl⟩)
 dsimp only [Pt.U, Pt.locs, Pt.cells, Pt.slots] at X25 l_28 y_29 z_30 st31 hQ27
 subst l_28 y_29 z_30
 obtain ⟨rfl, N35, e36⟩ := hQ27
 have N37 := Fr.app N0 N35
 have k2 : o_J p e below T21 m 5 #[vR b, vI (Int32.ofNat n), vR a] [] B_ := fun t_ hh => k1 t_ (st31.trans hh)
 clear k1 st31
 have k3 : o_J p e below T21 m 7 #[vR b, vI (Int32.ofNat n), vR a] [.ref b, .ref a] B_ := fun t_ hh => k2 t_ (by
  refine XS.aloadN X25.here hx rfl (hb hby o_h154) rfl rfl ?_
  refine XS.aloadN X25.here hx rfl (hb hby o_h155) rfl rfl ?_
  exact hh)
 clear k2
 obtain ⟨T38, X39, e40, st41⟩ := getF X25 hx hZ hown (host := "") (Or.inl (wT hw 55 rfl)) Via.refl e36 f1_ (g := (mkF m 7 #[vR b, vI (Int32.ofNat n), vR a] [.ref b, .ref a])) rfl rfl (hb hby o_h156)
 have k4 : o_J p e below T38 m 10 #[vR b, vI (Int32.ofNat n), vR a] [.ref t, .ref a] B_ := fun t_ hh => k3 t_ (st41 t_ hh)
 clear k3 st41 X25 e36
 have k5 : o_J p e below T38 m 12 #[vR b, vI (Int32.ofNat n), vR a] [.ref b, (.int (Int32.ofNat n)), .ref t, .ref a] B_ := fun t_ hh => k4 t_ (by
  refine XS.iloadN X39.here hx rfl (hb hby o_h157) rfl ?_
  refine XS.aloadN X39.here hx rfl (hb hby o_h158) rfl rfl ?_
  exact hh)
 clear k4
 obtain ⟨T42, X43, e44, st45⟩ := getF X39 hx hZ hown (host := "") (Or.inl (wT hw 57 rfl)) Via.refl e40 f2_ (g := (mkF m 12 #[vR b, vI (Int32.ofNat n), vR a] [.ref b, (.int (Int32.ofNat n)), .ref t, .ref a])) rfl rfl (hb hby o_h159)
 have k6 : o_J p e below T42 m 15 #[vR b, vI (Int32.ofNat n), vR a] [(.int 0), (.int (Int32.ofNat n)), .ref t, .ref a] B_ := fun t_ hh => k5 t_ (st45 t_ hh)
 clear k5 st45 X39 e40
 obtain ⟨cq57, kq58, qa59, qb60, qc61⟩ := isOf hZ e44 f3_
 obtain ⟨_, _, ⟨T46, L47, k_48, n_49⟩, -, X50, ⟨Lc51, hQ52, l_53, y_54, z_55⟩, st56⟩ := X43.virtualBack hx (y := ⟨oS, "getBytes", "([BIB)V"⟩) (z := ⟨oS, "getBytes", "([BIB)V"⟩) hown (mvT hZ (wT hw 131 rfl)) (mvT hZ (wT hw 132 rfl)) (notFace_of_selects (args := #[]) (mvT hZ (wT hw 134 rfl))) (mvT hZ (wT hw 134 rfl)) (mvT hZ (wT hw 133 rfl)) (by decide) (backOf (W := 0) (rmGb l Z a0 hw [] a ta ka N vs t kt cap ds n h0 n0 Z0 f3_ f4_ f5_ f6_ f7_ hvs hds hfit hcap f12_ f13_ f14_ f15_ ci sC hc) hZ (wT hw 135 rfl) (wT hw 6 rfl) (by decide) (by decide)) qa59 qc61 (g := (mkF m 15 #[vR b, vI (Int32.ofNat n), vR a] [(.int 0), (.int (Int32.ofNat n)), .ref t, .ref a])) rfl (by rw [hml]; rfl) (Steps.refl _) (argsL := [.ref t, (.int (Int32.ofNat n)), (.int 0)]) (rest := []) (lenOf o_h161 rfl) rfl (o_w0 rfl) (hb hby o_h160) (fun _ _ => ⟨rfl, e44, o_l rfl, o_l rfl⟩)
 dsimp only [Pt.U, Pt.locs, Pt.cells, Pt.slots] at X50 l_53 y_54 z_55 st56 hQ52
 subst l_53 y_54 z_55
 obtain ⟨es63, rfl, N62, K66, F64, F65, -⟩ := hQ52
 have N67 := Fr.app N37 N62
 have F68 := f0_.keep K66
 have F69 := f1_.keep K66 (ninS f16_ nin0)
 have F70 := f2_.keep K66 (ninS f16_ nin0)
 have F71 := f3_.keep K66
 have F72 := f4_.keep K66 (ninS f14_ nin0)
 have F73 := f5_.keep K66 (ninS f14_ nin0)
 have F74 := f6_.keep K66 (ninS f13_ nin0)
 have Z75 : n0 ≤ T46.heap.size := Nat.le_trans Z0 K66.1
 have O76 := f15_.keep K66 (allS f12_ all0)
 have P77 : Keep h0 T46.heap [t] := K0.trans K66 (allS (P := fun x => x ∈ [t] ∨ h0.size ≤ x) (Or.inl (List.mem_of_getElem? (i := 0) rfl)) all0)
 have e78 : T46.heap = T46.heap := rfl
 have k7 : o_J p e below T46 m 18 #[vR b, vI (Int32.ofNat n), vR a] [] B_ := fun t_ hh => k6 t_ (st56.trans hh)
 clear k6 st56 X43 e44
 obtain ⟨fs, hr, hrun, hended, hW, hsame⟩ := X50.leave (v := none) (fun _ => rfl)
 refine ⟨_, _, (o_from hB_ (k7 _ (X50.returnOut hx Bd.returns (hb hby o_h162) hr))), hrun, hended, _, _, rfl, ?_, ⟨_, rfl⟩, hW, hsame.mono (o_l rfl) (o_l rfl)⟩
 show Q_rmPs Z b a ta ka N vs t kt cap ds n h0 n0 _ T46.heap _
 rw [e78]
 exact ⟨es63, rfl, N67, P77, F64, F65, trivial⟩
def Q_rmAs (Z : State) (b : Addr) (t : Addr) (kt : ClassId) (cap : Nat) (ds : List Value) (n : Nat) (a : Addr) (ta : Addr) (ka : ClassId) (N : Nat) (vs : List Value) (h0 : Heap) (n0 : Nat) (v : Option Value) (h : Heap) (L : List Loc) : Prop := ∃ t2 : Addr, ∃ k2 : ClassId, ∃ es : List Value, v = some (.ref b) ∧ Fr n0 L ∧ Keep h0 h [b, t] ∧ Exa Z h b oB ∧ Fld Z h b oA "value" "[B" (.ref t2) ∧ Fld Z h b oA "coder" "B" (.int (0 : Int32)) ∧ Fld Z h b oA "count" "I" (.int (Int32.ofNat (n + N))) ∧ Arv Z h t2 k2 .byte (Int32.ofNat (o_cap cap (n + N))) es (.int (0 : Int32)) ∧ Exa Z h t2 "[B" ∧ (es.length = (o_cap cap (n + N)) ∧ es.take (n + N) = ds.take n ++ vs) ∧ (t2 = t ∨ h0.size ≤ t2) ∧ n0 ≤ t2 ∧ b ≠ t2 ∧ True
theorem o_h163 : decode jdk_68_method_22_code 0 = .ok (.aload_n 1, 1) := by decide +kernel
theorem o_h164 : decode jdk_68_method_22_code 1 = .ok (.ifnonnull 8, 3) := by decide +kernel
theorem o_h165 : decode jdk_68_method_22_code 9 = .ok (.aload_n 1, 1) := by decide +kernel
theorem o_h166 : decode jdk_68_method_22_code 10 = .ok (.invokevirtual 32, 3) := by decide +kernel
theorem o_h167 : parseMethodDescriptor "()I" = some ⟨[], some .int⟩ := by decide +kernel
theorem o_h168 : decode jdk_68_method_22_code 13 = .ok (.istore_n 2, 1) := by decide +kernel
theorem o_h169 : decode jdk_68_method_22_code 14 = .ok (.aload_n 0, 1) := by decide +kernel
theorem o_h170 : decode jdk_68_method_22_code 15 = .ok (.aload_n 0, 1) := by decide +kernel
theorem o_h171 : decode jdk_68_method_22_code 16 = .ok (.getfield 79, 3) := by decide +kernel
theorem o_h172 : decode jdk_68_method_22_code 19 = .ok (.iload_n 2, 1) := by decide +kernel
theorem o_h173 : decode jdk_68_method_22_code 20 = .ok (.iadd, 1) := by decide +kernel
theorem o_h174 : decode jdk_68_method_22_code 21 = .ok (.invokevirtual 100, 3) := by decide +kernel
theorem o_h175 : parseMethodDescriptor "(I)V" = some ⟨[.int], none⟩ := by decide +kernel
theorem o_h176 : decode jdk_68_method_22_code 24 = .ok (.aload_n 0, 1) := by decide +kernel
theorem o_h177 : decode jdk_68_method_22_code 25 = .ok (.aload_n 0, 1) := by decide +kernel
theorem o_h178 : decode jdk_68_method_22_code 26 = .ok (.getfield 79, 3) := by decide +kernel
theorem o_h179 : decode jdk_68_method_22_code 29 = .ok (.aload_n 1, 1) := by decide +kernel
theorem o_h180 : decode jdk_68_method_22_code 30 = .ok (.invokevirtual 208, 3) := by decide +kernel
theorem o_h181 : parseMethodDescriptor "(ILjava/lang/String;)V" = some ⟨[.int, .object oS], none⟩ := by decide +kernel
theorem o_h182 : decode jdk_68_method_22_code 33 = .ok (.aload_n 0, 1) := by decide +kernel
theorem o_h183 : decode jdk_68_method_22_code 34 = .ok (.dup, 1) := by decide +kernel
theorem o_h184 : decode jdk_68_method_22_code 35 = .ok (.getfield 79, 3) := by decide +kernel
theorem o_h185 : decode jdk_68_method_22_code 38 = .ok (.iload_n 2, 1) := by decide +kernel
theorem o_h186 : decode jdk_68_method_22_code 39 = .ok (.iadd, 1) := by decide +kernel
theorem o_h187 : decode jdk_68_method_22_code 40 = .ok (.putfield 79, 3) := by decide +kernel
theorem o_h188 : decode jdk_68_method_22_code 43 = .ok (.aload_n 0, 1) := by decide +kernel
theorem o_h189 : decode jdk_68_method_22_code 44 = .ok (.areturn, 1) := by decide +kernel
theorem rmAs (l : Launch) (Z : State) (a0 : Array Value) (hw : ∀ d ∈ tables_1, d.before a0 Z = true) (ws : List Jvm.Cond) (b : Addr) (t : Addr) (kt : ClassId) (cap : Nat) (ds : List Value) (n : Nat) (a : Addr) (ta : Addr) (ka : ClassId) (N : Nat) (vs : List Value) (h0 : Heap) (n0 : Nat) (Z0 : n0 ≤ h0.size) (f0_ : Exa Z h0 b oB) (f1_ : Fld Z h0 b oA "value" "[B" (.ref t)) (f2_ : Fld Z h0 b oA "coder" "B" (.int (0 : Int32))) (f3_ : Fld Z h0 b oA "count" "I" (.int (Int32.ofNat n))) (f4_ : Arv Z h0 t kt .byte (Int32.ofNat cap) ds (.int (0 : Int32))) (f5_ : Exa Z h0 t "[B") (f6_ : Exa Z h0 a oS) (f7_ : Fld Z h0 a oS "value" "[B" (.ref ta)) (f8_ : Fld Z h0 a oS "coder" "B" (.int (0 : Int32))) (f9_ : Arv Z h0 ta ka .byte (Int32.ofNat N) vs (.int (0 : Int32))) (hds : ds.length = cap) (hn : n ≤ cap) (hvs : vs.length = N) (hcap : o_cap cap (n + N) ≤ 160) (f14_ : n0 ≤ b) (f15_ : n0 ≤ t) (f16_ : b ≠ t) (f17_ : ta ≠ t) (f18_ : a ≠ t) (f19_ : ta ≠ b) (f20_ : a ≠ b) (f21_ : Old Z n0 h0) (ci : Int32) (sC : Sta Z Z.heap oS "COMPACT_STRINGS" "Z" (.int ci)) (hc : ¬ ci = 0) :
    o_Met l (⟨oA, "append", "(Ljava/lang/String;)Ljava/lang/AbstractStringBuilder;"⟩ : MethodName) jdk_68_method_22_code 3 (some (.object oA)) ws (rO 4 1 160 62) #[.ref b, .ref a] Z h0 (Q_rmAs Z b t kt cap ds n a ta ka N vs h0 n0) := by
 refine MetFree.of_bodySF (plainFor_of_name o_h33) hisR ?_
 intro p e s m args below meth c s₁ Bd hml0 hP hK
 obtain ⟨rfl, hZ, hh⟩ := hP
 have hx := Bd.exec
 have hby := Bd.bytes
 have hml : c.maxLocals = 3 := hml0
 have hown : s.vm.findClass oA = some m.cls := findClass_of_methodNamed Bd.named
 have hnm := (name_of_methodNamed Bd.named Bd.method).1
 have X0 : Stand p l e (rO 4 1 160 62) s m #[.ref b, .ref a] below meth c s₁ [] 0 0 := Stand.of_body Bd
 have e0 : s₁.heap = h0 := by rw [← hh, Bd.state]; rfl
 have N0 := Fr.nil n0
 obtain ⟨B_, hB_⟩ : ∃ z, z = s₁.setTop (entryFrame m #[.ref b, .ref a] 3) := ⟨_, rfl⟩
 have k0 : o_K p e below (s₁.setTop (mkF m 0 #[.val (.ref b), .val (.ref a), .unset] [])) B_ := by rw [hB_]; exact fun t k => castTop (by clear k; first | (simp [entryFrame, mkF, argsToLocals, Value.category, maxLocals]; done) | rfl) k
 have K0 : Keep h0 h0 [b, t] := Keep.refl _ _
 have k1 : o_J p e below s₁ m 10 #[vR b, vR a, .unset] [.ref a] B_ := fun t_ hh => k0 t_ (by
  refine XS.aloadN X0.here hx rfl (hb hby o_h163) rfl rfl ?_
  refine XS.ifnonnullYes X0.here hx rfl (pc0 := 1) (pc' := 9) rfl (hb hby o_h164) rfl (by decide) (by decide) ?_
  refine XS.aloadN X0.here hx rfl (hb hby o_h165) rfl rfl ?_
  exact hh)
 obtain ⟨cq32, kq33, qa34, qb35, qc36⟩ := isOf hZ e0 f6_
 obtain ⟨_, _, ⟨T21, L22, k_23, n_24⟩, -, X25, ⟨Lc26, hQ27, l_28, y_29, z_30⟩, st31⟩ := X0.virtualBack hx (y := ⟨oS, "length", "()I"⟩) (z := ⟨oS, "length", "()I"⟩) hown (mvT hZ (wT hw 76 rfl)) (mvT hZ (wT hw 77 rfl)) (notFace_of_selects (args := #[]) (mvT hZ (wT hw 79 rfl))) (mvT hZ (wT hw 79 rfl)) (mvT hZ (wT hw 78 rfl)) (by decide) (backOf (W := 0) (rmLe l Z a0 hw [] a ta ka N vs h0 n0 Z0 f6_ f7_ f8_ f9_ f21_ ci sC hc) hZ (wT hw 80 rfl) (wT hw 6 rfl) (by decide) (by decide)) qa34 qc36 (g := (mkF m 10 #[vR b, vR a, .unset] [.ref a])) rfl (by rw [hml]; rfl) (Steps.refl _) (argsL := []) (rest := []) (lenOf o_h167 rfl) rfl (o_w0 rfl) (hb hby o_h166) (fun _ _ => ⟨rfl, e0, o_l rfl, o_l rfl⟩)
 dsimp only [Pt.U, Pt.locs, Pt.cells, Pt.slots] at X25 l_28 y_29 z_30 st31 hQ27
 subst l_28 y_29 z_30
 obtain ⟨rfl, N37, e38⟩ := hQ27
 have N39 := Fr.app N0 N37
 have k2 : o_J p e below T21 m 13 #[vR b, vR a, .unset] [(.int (Int32.ofNat N))] B_ := fun t_ hh => k1 t_ (st31.trans hh)
 clear k1 st31
 have k3 : o_J p e below T21 m 16 #[vR b, vR a, vI (Int32.ofNat N)] [.ref b, .ref b] B_ := fun t_ hh => k2 t_ (by
  refine XS.istoreN X25.here hx rfl (hb hby o_h168) rfl (l' := #[vR b, vR a, vI (Int32.ofNat N)]) rfl ?_
  refine XS.aloadN X25.here hx rfl (hb hby o_h169) rfl rfl ?_
  refine XS.aloadN X25.here hx rfl (hb hby o_h170) rfl rfl ?_
  exact hh)
 clear k2
 obtain ⟨T40, X41, e42, st43⟩ := getF X25 hx hZ hown (host := "") (Or.inl (wT hw 87 rfl)) Via.refl e38 f3_ (g := (mkF m 16 #[vR b, vR a, vI (Int32.ofNat N)] [.ref b, .ref b])) rfl rfl (hb hby o_h171)
 have k4 : o_J p e below T40 m 19 #[vR b, vR a, vI (Int32.ofNat N)] [(.int (Int32.ofNat n)), .ref b] B_ := fun t_ hh => k3 t_ (st43 t_ hh)
 clear k3 st43 X25 e38
 have k5 : o_J p e below T40 m 21 #[vR b, vR a, vI (Int32.ofNat N)] [(.int ((Int32.ofNat n) + (Int32.ofNat N))), .ref b] B_ := fun t_ hh => k4 t_ (by
  refine XS.iloadN X41.here hx rfl (hb hby o_h172) rfl ?_
  refine XS.iadd X41.here hx rfl (hb hby o_h173) rfl ?_
  exact hh)
 clear k4
 have k6 : o_J p e below T40 m 21 #[vR b, vR a, vI (Int32.ofNat N)] [(.int (Int32.ofNat (n + N))), .ref b] B_ := by have q := k5; rw [o_addN] at q; exact q
 by_cases hgr : n + N ≤ cap
 ·
  have hcc : o_cap cap (n + N) = cap := o_cap_same hgr
  have hcb : cap ≤ 160 := by rw [← hcc]; exact hcap
  obtain ⟨cq55, qa56, qb57⟩ := f0_.cell
  obtain ⟨_, _, ⟨T44, L45, k_46, n_47⟩, -, X48, ⟨Lc49, hQ50, l_51, y_52, z_53⟩, st54⟩ := X41.privateBack hx (y := ⟨oA, "ensureCapacityInternal", "(I)V"⟩) hown (mvT hZ (wT hw 89 rfl)) (mvT hZ (wT hw 90 rfl)) (o_selSelf (mvT hZ (wT hw 92 rfl)) (Cond.privateMethod_at (mvP hZ (wT hw 91 rfl) (args := #[]))) (mvT hZ (wT hw 90 rfl)) (by decide)) (Cond.privateMethod_at (mvP hZ (wT hw 91 rfl) (args := #[]))) (mvT hZ (wT hw 93 rfl)) (by decide) (backOf (W := 0) (rmEn0 l Z a0 hw [] b t kt cap ds (n + N) h0 n0 Z0 f1_ f2_ f4_ hgr hcb ) hZ (wT hw 93 rfl) (wT hw 51 rfl) (by decide) (by decide)) (g := (mkF m 21 #[vR b, vR a, vI (Int32.ofNat N)] [(.int (Int32.ofNat (n + N))), .ref b])) rfl (by rw [hml]; rfl) (Steps.refl _) (a := b) (by rw [e42]; exact qa56) qb57 (argsL := [(.int (Int32.ofNat (n + N)))]) (rest := []) (lenOf o_h175 rfl) rfl (o_w0 rfl) (hb hby o_h174) (fun _ _ => ⟨rfl, e42, o_l rfl, o_l rfl⟩)
  dsimp only [Pt.U, Pt.locs, Pt.cells, Pt.slots] at X48 l_51 y_52 z_53 st54 hQ50
  subst l_51 y_52 z_53
  obtain ⟨rfl, N58, e59⟩ := hQ50
  have N60 := Fr.app N39 N58
  have k7 : o_J p e below T44 m 24 #[vR b, vR a, vI (Int32.ofNat N)] [] B_ := fun t_ hh => k6 t_ (st54.trans hh)
  clear k6 st54 X41 e42
  have k8 : o_J p e below T44 m 26 #[vR b, vR a, vI (Int32.ofNat N)] [.ref b, .ref b] B_ := fun t_ hh => k7 t_ (by
   refine XS.aloadN X48.here hx rfl (hb hby o_h176) rfl rfl ?_
   refine XS.aloadN X48.here hx rfl (hb hby o_h177) rfl rfl ?_
   exact hh)
  clear k7
  obtain ⟨T61, X62, e63, st64⟩ := getF X48 hx hZ hown (host := "") (Or.inl (wT hw 87 rfl)) Via.refl e59 f3_ (g := (mkF m 26 #[vR b, vR a, vI (Int32.ofNat N)] [.ref b, .ref b])) rfl rfl (hb hby o_h178)
  have k9 : o_J p e below T61 m 29 #[vR b, vR a, vI (Int32.ofNat N)] [(.int (Int32.ofNat n)), .ref b] B_ := fun t_ hh => k8 t_ (st64 t_ hh)
  clear k8 st64 X48 e59
  have k10 : o_J p e below T61 m 30 #[vR b, vR a, vI (Int32.ofNat N)] [.ref a, (.int (Int32.ofNat n)), .ref b] B_ := fun t_ hh => k9 t_ (by
   refine XS.aloadN X62.here hx rfl (hb hby o_h179) rfl rfl ?_
   exact hh)
  clear k9
  obtain ⟨cq76, qa77, qb78⟩ := f0_.cell
  obtain ⟨_, _, ⟨T65, L66, k_67, n_68⟩, -, X69, ⟨Lc70, hQ71, l_72, y_73, z_74⟩, st75⟩ := X62.privateBack hx (y := ⟨oA, "putStringAt", "(ILjava/lang/String;)V"⟩) hown (mvT hZ (wT hw 120 rfl)) (mvT hZ (wT hw 121 rfl)) (o_selSelf (mvT hZ (wT hw 123 rfl)) (Cond.privateMethod_at (mvP hZ (wT hw 122 rfl) (args := #[]))) (mvT hZ (wT hw 121 rfl)) (by decide)) (Cond.privateMethod_at (mvP hZ (wT hw 122 rfl) (args := #[]))) (mvT hZ (wT hw 124 rfl)) (by decide) (backOf (W := 0) (rmPs l Z a0 hw [] b a ta ka N vs t kt cap ds n h0 n0 Z0 f0_ f1_ f2_ f6_ f7_ f8_ f9_ f4_ hvs hds hgr hcb f15_ f17_ f18_ f21_ f16_ ci sC hc) hZ (wT hw 124 rfl) (wT hw 51 rfl) (by decide) (by decide)) (g := (mkF m 30 #[vR b, vR a, vI (Int32.ofNat N)] [.ref a, (.int (Int32.ofNat n)), .ref b])) rfl (by rw [hml]; rfl) (Steps.refl _) (a := b) (by rw [e63]; exact qa77) qb78 (argsL := [(.int (Int32.ofNat n)), .ref a]) (rest := []) (lenOf o_h181 rfl) rfl (o_w0 rfl) (hb hby o_h180) (fun _ _ => ⟨rfl, e63, o_l rfl, o_l rfl⟩)
  dsimp only [Pt.U, Pt.locs, Pt.cells, Pt.slots] at X69 l_72 y_73 z_74 st75 hQ71
  subst l_72 y_73 z_74
  obtain ⟨es80, rfl, N79, K83, F81, F82, -⟩ := hQ71
  have N84 := Fr.app N60 N79
  have F85 := f0_.keep K83
  have F86 := f1_.keep K83 (ninS f16_ nin0)
  have F87 := f2_.keep K83 (ninS f16_ nin0)
  have F88 := f3_.keep K83 (ninS f16_ nin0)
  have F89 := f5_.keep K83
  have F90 := f6_.keep K83
  have F91 := f7_.keep K83 (ninS f18_ nin0)
  have F92 := f8_.keep K83 (ninS f18_ nin0)
  have F93 := f9_.keep K83 (ninS f17_ nin0)
  have Z94 : n0 ≤ T65.heap.size := Nat.le_trans Z0 K83.1
  have O95 := f21_.keep K83 (allS f15_ all0)
  have P96 : Keep h0 T65.heap [b, t] := K0.trans K83 (allS (P := fun x => x ∈ [b, t] ∨ h0.size ≤ x) (Or.inl (List.mem_of_getElem? (i := 1) rfl)) all0)
  have e97 : T65.heap = T65.heap := rfl
  have k11 : o_J p e below T65 m 33 #[vR b, vR a, vI (Int32.ofNat N)] [] B_ := fun t_ hh => k10 t_ (st75.trans hh)
  clear k10 st75 X62 e63
  have k12 : o_J p e below T65 m 35 #[vR b, vR a, vI (Int32.ofNat N)] [.ref b, .ref b] B_ := fun t_ hh => k11 t_ (by
   refine XS.aloadN X69.here hx rfl (hb hby o_h182) rfl rfl ?_
   refine XS.dup X69.here hx rfl (hb hby o_h183) rfl rfl ?_
   exact hh)
  clear k11
  obtain ⟨T98, X99, e100, st101⟩ := getF X69 hx hZ hown (host := "") (Or.inl (wT hw 87 rfl)) Via.refl e97 F88 (g := (mkF m 35 #[vR b, vR a, vI (Int32.ofNat N)] [.ref b, .ref b])) rfl rfl (hb hby o_h184)
  have k13 : o_J p e below T98 m 38 #[vR b, vR a, vI (Int32.ofNat N)] [(.int (Int32.ofNat n)), .ref b] B_ := fun t_ hh => k12 t_ (st101 t_ hh)
  clear k12 st101 X69 e97
  have k14 : o_J p e below T98 m 40 #[vR b, vR a, vI (Int32.ofNat N)] [(.int ((Int32.ofNat n) + (Int32.ofNat N))), .ref b] B_ := fun t_ hh => k13 t_ (by
   refine XS.iloadN X99.here hx rfl (hb hby o_h185) rfl ?_
   refine XS.iadd X99.here hx rfl (hb hby o_h186) rfl ?_
   exact hh)
  clear k13
  have k15 : o_J p e below T98 m 40 #[vR b, vR a, vI (Int32.ofNat N)] [(.int (Int32.ofNat (n + N))), .ref b] B_ := by have q := k14; rw [o_addN] at q; exact q
  obtain ⟨T102, h103, X104, e105, W106, st107⟩ := putF X99 hx hZ hown (host := "") (Or.inl (wT hw 87 rfl)) Via.refl e100 F88 F85 (Or.inl (wT hw 88 rfl)) (wT hw 42 rfl) (ty := .int) (by decide) rfl rfl (g := (mkF m 40 #[vR b, vR a, vI (Int32.ofNat N)] [(.int (Int32.ofNat (n + N))), .ref b])) rfl rfl (hb hby o_h187)
  have N108 := Fr.snoc X104 N84 f14_
  have F109 := Exa.wr W106 F85
  have F110 := Fld.other W106 F86 (Or.inr (slot_ne (Or.inl (wT hw 56 rfl)) (Or.inl (wT hw 88 rfl)) (by decide) (t := (.array .byte)) (t' := .int) (by decide) (by decide)))
  have F111 := Fld.other W106 F87 (Or.inr (slot_ne (Or.inl (wT hw 58 rfl)) (Or.inl (wT hw 88 rfl)) (by decide) (t := .byte) (t' := .int) (by decide) (by decide)))
  have F112 : Fld Z h103 b oA "count" "I" (.int (Int32.ofNat (n + N))) := Fld.same W106 F88
  have F113 := Exa.wr W106 F89
  have F114 := Exa.wr W106 F90
  have F115 := Fld.other W106 F91 (Or.inl f20_)
  have F116 := Fld.other W106 F92 (Or.inl f20_)
  have F117 := F93.other W106 f19_
  have F119 := F81.other W106 (Ne.symm f16_)
  have Z120 : n0 ≤ h103.size := W106.size ▸ Z94
  have O121 := O95.wr W106 f14_
  have P122 : Keep h0 h103 [b, t] := P96.wr W106 (Or.inl (List.mem_of_getElem? (i := 0) rfl))
  have k16 : o_J p e below T102 m 43 #[vR b, vR a, vI (Int32.ofNat N)] [] B_ := fun t_ hh => k15 t_ (st107 t_ hh)
  clear k15 st107 X99 e100
  have F123 : Arv Z h103 t kt .byte (Int32.ofNat (o_cap cap (n + N))) es80 (.int 0) := by rw [hcc]; exact F119
  have k17 : o_J p e below T102 m 44 #[vR b, vR a, vI (Int32.ofNat N)] [.ref b] B_ := fun t_ hh => k16 t_ (by
   refine XS.aloadN X104.here hx rfl (hb hby o_h188) rfl rfl ?_
   exact hh)
  clear k16
  obtain ⟨fs, hr, hrun, hended, hW, hsame⟩ := X104.leave (v := some (.ref b)) (fun h => by rw [Bd.returns] at h; cases h)
  refine ⟨_, _, (o_from hB_ (k17 _ (retOut X104 hx (t := .object oA) Bd.returns rfl (Or.inr (Or.inr (Or.inr (Or.inr ⟨rfl, rfl, rfl⟩)))) (hb hby o_h189) hr))), hrun, hended, _, _, rfl, ?_, ⟨_, rfl⟩, hW, hsame.mono (o_l rfl) (o_l rfl)⟩
  show Q_rmAs Z b t kt cap ds n a ta ka N vs h0 n0 _ T102.heap _
  rw [e105]
  exact ⟨t, kt, es80, rfl, N108, P122, F109, F110, F111, F112, F123, F113, (by rw [hcc]; exact F82), (Or.inl rfl), f15_, f16_, trivial⟩
 ·
  have hcc : o_cap cap (n + N) = o_nc cap (n + N) := o_cap_grow hgr
  have hcb : o_nc cap (n + N) ≤ 160 := by rw [← hcc]; exact hcap
  obtain ⟨cq135, qa136, qb137⟩ := f0_.cell
  obtain ⟨_, _, ⟨T124, L125, k_126, n_127⟩, -, X128, ⟨Lc129, hQ130, l_131, y_132, z_133⟩, st134⟩ := X41.privateBack hx (y := ⟨oA, "ensureCapacityInternal", "(I)V"⟩) hown (mvT hZ (wT hw 89 rfl)) (mvT hZ (wT hw 90 rfl)) (o_selSelf (mvT hZ (wT hw 92 rfl)) (Cond.privateMethod_at (mvP hZ (wT hw 91 rfl) (args := #[]))) (mvT hZ (wT hw 90 rfl)) (by decide)) (Cond.privateMethod_at (mvP hZ (wT hw 91 rfl) (args := #[]))) (mvT hZ (wT hw 93 rfl)) (by decide) (backOf (W := 0) (rmEn1 l Z a0 hw [] b t kt cap ds n (n + N) h0 n0 Z0 f0_ f1_ f2_ f3_ f4_ hds (Nat.lt_of_not_le hgr) hcb f14_ f16_ ) hZ (wT hw 93 rfl) (wT hw 51 rfl) (by decide) (by decide)) (g := (mkF m 21 #[vR b, vR a, vI (Int32.ofNat N)] [(.int (Int32.ofNat (n + N))), .ref b])) rfl (by rw [hml]; rfl) (Steps.refl _) (a := b) (by rw [e42]; exact qa136) qb137 (argsL := [(.int (Int32.ofNat (n + N)))]) (rest := []) (lenOf o_h175 rfl) rfl (o_w0 rfl) (hb hby o_h174) (fun _ _ => ⟨rfl, e42, o_l rfl, o_l rfl⟩)
  dsimp only [Pt.U, Pt.locs, Pt.cells, Pt.slots] at X128 l_131 y_132 z_133 st134 hQ130
  subst l_131 y_132 z_133
  obtain ⟨t2139, k2140, es141, rfl, N138, K151, F142, F143, F144, F145, F146, F147, F148, F149, F150, -⟩ := hQ130
  have N152 := Fr.app N39 N138
  have H0153 : h0.size ≤ t2139 := Nat.le_trans K0.1 F150
  have F154 := f0_.keep K151
  have F155 := f4_.keep K151 (ninS (Ne.symm f16_) nin0)
  have F156 := f5_.keep K151
  have F157 := f6_.keep K151
  have F158 := f7_.keep K151 (ninS f20_ nin0)
  have F159 := f8_.keep K151 (ninS f20_ nin0)
  have F160 := f9_.keep K151 (ninS f19_ nin0)
  have Z161 : n0 ≤ T124.heap.size := Nat.le_trans Z0 K151.1
  have O162 := f21_.keep K151 (allS f14_ all0)
  have P163 : Keep h0 T124.heap [b, t] := K0.trans K151 (allS (P := fun x => x ∈ [b, t] ∨ h0.size ≤ x) (Or.inl (List.mem_of_getElem? (i := 0) rfl)) all0)
  have e164 : T124.heap = T124.heap := rfl
  have k18 : o_J p e below T124 m 24 #[vR b, vR a, vI (Int32.ofNat N)] [] B_ := fun t_ hh => k6 t_ (st134.trans hh)
  clear k6 st134 X41 e42
  have k19 : o_J p e below T124 m 26 #[vR b, vR a, vI (Int32.ofNat N)] [.ref b, .ref b] B_ := fun t_ hh => k18 t_ (by
   refine XS.aloadN X128.here hx rfl (hb hby o_h176) rfl rfl ?_
   refine XS.aloadN X128.here hx rfl (hb hby o_h177) rfl rfl ?_
   exact hh)
  clear k18
  obtain ⟨T165, X166, e167, st168⟩ := getF X128 hx hZ hown (host := "") (Or.inl (wT hw 87 rfl)) Via.refl e164 F145 (g := (mkF m 26 #[vR b, vR a, vI (Int32.ofNat N)] [.ref b, .ref b])) rfl rfl (hb hby o_h178)
  have k20 : o_J p e below T165 m 29 #[vR b, vR a, vI (Int32.ofNat N)] [(.int (Int32.ofNat n)), .ref b] B_ := fun t_ hh => k19 t_ (st168 t_ hh)
  clear k19 st168 X128 e164
  have k21 : o_J p e below T165 m 30 #[vR b, vR a, vI (Int32.ofNat N)] [.ref a, (.int (Int32.ofNat n)), .ref b] B_ := fun t_ hh => k20 t_ (by
   refine XS.aloadN X166.here hx rfl (hb hby o_h179) rfl rfl ?_
   exact hh)
  clear k20
  have ne180 : ta ≠ t2139 := Nat.ne_of_lt (Nat.lt_of_lt_of_le f9_.lt F150)
  have ne181 : a ≠ t2139 := Nat.ne_of_lt (Nat.lt_of_lt_of_le f6_.lt F150)
  have ne182 : b ≠ t2139 := Nat.ne_of_lt (Nat.lt_of_lt_of_le f0_.lt F150)
  obtain ⟨cq183, qa184, qb185⟩ := F142.cell
  obtain ⟨_, _, ⟨T169, L170, k_171, n_172⟩, -, X173, ⟨Lc174, hQ175, l_176, y_177, z_178⟩, st179⟩ := X166.privateBack hx (y := ⟨oA, "putStringAt", "(ILjava/lang/String;)V"⟩) hown (mvT hZ (wT hw 120 rfl)) (mvT hZ (wT hw 121 rfl)) (o_selSelf (mvT hZ (wT hw 123 rfl)) (Cond.privateMethod_at (mvP hZ (wT hw 122 rfl) (args := #[]))) (mvT hZ (wT hw 121 rfl)) (by decide)) (Cond.privateMethod_at (mvP hZ (wT hw 122 rfl) (args := #[]))) (mvT hZ (wT hw 124 rfl)) (by decide) (backOf (W := 0) (rmPs l Z a0 hw [] b a ta ka N vs t2139 k2140 (o_nc cap (n + N)) es141 n T124.heap n0 Z161 F142 F143 F144 F157 F158 F159 F160 F146 hvs F148.1 o_nc_ge hcb F149 ne180 ne181 O162 ne182 ci sC hc) hZ (wT hw 124 rfl) (wT hw 51 rfl) (by decide) (by decide)) (g := (mkF m 30 #[vR b, vR a, vI (Int32.ofNat N)] [.ref a, (.int (Int32.ofNat n)), .ref b])) rfl (by rw [hml]; rfl) (Steps.refl _) (a := b) (by rw [e167]; exact qa184) qb185 (argsL := [(.int (Int32.ofNat n)), .ref a]) (rest := []) (lenOf o_h181 rfl) rfl (o_w0 rfl) (hb hby o_h180) (fun _ _ => ⟨rfl, e167, o_l rfl, o_l rfl⟩)
  dsimp only [Pt.U, Pt.locs, Pt.cells, Pt.slots] at X173 l_176 y_177 z_178 st179 hQ175
  subst l_176 y_177 z_178
  obtain ⟨es187, rfl, N186, K190, F188, F189, -⟩ := hQ175
  have N191 := Fr.app N152 N186
  have F192 := F142.keep K190
  have ne194 : t ≠ t2139 := Nat.ne_of_lt (Nat.lt_of_lt_of_le f4_.lt F150)
  have F193 := F155.keep K190 (ninS ne194 nin0)
  have F195 := F156.keep K190
  have F196 := F157.keep K190
  have F197 := F158.keep K190 (ninS ne181 nin0)
  have F198 := F159.keep K190 (ninS ne181 nin0)
  have F199 := F160.keep K190 (ninS ne180 nin0)
  have F200 := F143.keep K190 (ninS ne182 nin0)
  have F201 := F144.keep K190 (ninS ne182 nin0)
  have F202 := F145.keep K190 (ninS ne182 nin0)
  have F203 := F147.keep K190
  have Z204 : n0 ≤ T169.heap.size := Nat.le_trans Z161 K190.1
  have O205 := O162.keep K190 (allS F149 all0)
  have P206 : Keep h0 T169.heap [b, t] := P163.trans K190 (allS (P := fun x => x ∈ [b, t] ∨ h0.size ≤ x) (Or.inr H0153) all0)
  have e207 : T169.heap = T169.heap := rfl
  have k22 : o_J p e below T169 m 33 #[vR b, vR a, vI (Int32.ofNat N)] [] B_ := fun t_ hh => k21 t_ (st179.trans hh)
  clear k21 st179 X166 e167
  have k23 : o_J p e below T169 m 35 #[vR b, vR a, vI (Int32.ofNat N)] [.ref b, .ref b] B_ := fun t_ hh => k22 t_ (by
   refine XS.aloadN X173.here hx rfl (hb hby o_h182) rfl rfl ?_
   refine XS.dup X173.here hx rfl (hb hby o_h183) rfl rfl ?_
   exact hh)
  clear k22
  obtain ⟨T208, X209, e210, st211⟩ := getF X173 hx hZ hown (host := "") (Or.inl (wT hw 87 rfl)) Via.refl e207 F202 (g := (mkF m 35 #[vR b, vR a, vI (Int32.ofNat N)] [.ref b, .ref b])) rfl rfl (hb hby o_h184)
  have k24 : o_J p e below T208 m 38 #[vR b, vR a, vI (Int32.ofNat N)] [(.int (Int32.ofNat n)), .ref b] B_ := fun t_ hh => k23 t_ (st211 t_ hh)
  clear k23 st211 X173 e207
  have k25 : o_J p e below T208 m 40 #[vR b, vR a, vI (Int32.ofNat N)] [(.int ((Int32.ofNat n) + (Int32.ofNat N))), .ref b] B_ := fun t_ hh => k24 t_ (by
   refine XS.iloadN X209.here hx rfl (hb hby o_h185) rfl ?_
   refine XS.iadd X209.here hx rfl (hb hby o_h186) rfl ?_
   exact hh)
  clear k24
  have k26 : o_J p e below T208 m 40 #[vR b, vR a, vI (Int32.ofNat N)] [(.int (Int32.ofNat (n + N))), .ref b] B_ := by have q := k25; rw [o_addN] at q; exact q
  obtain ⟨T212, h213, X214, e215, W216, st217⟩ := putF X209 hx hZ hown (host := "") (Or.inl (wT hw 87 rfl)) Via.refl e210 F202 F192 (Or.inl (wT hw 88 rfl)) (wT hw 42 rfl) (ty := .int) (by decide) rfl rfl (g := (mkF m 40 #[vR b, vR a, vI (Int32.ofNat N)] [(.int (Int32.ofNat (n + N))), .ref b])) rfl rfl (hb hby o_h187)
  have N218 := Fr.snoc X214 N191 f14_
  have F219 := Exa.wr W216 F192
  have F220 := F193.other W216 (Ne.symm f16_)
  have F221 := Exa.wr W216 F195
  have F222 := Exa.wr W216 F196
  have F223 := Fld.other W216 F197 (Or.inl f20_)
  have F224 := Fld.other W216 F198 (Or.inl f20_)
  have F225 := F199.other W216 f19_
  have F227 := Fld.other W216 F200 (Or.inr (slot_ne (Or.inl (wT hw 56 rfl)) (Or.inl (wT hw 88 rfl)) (by decide) (t := (.array .byte)) (t' := .int) (by decide) (by decide)))
  have F228 := Fld.other W216 F201 (Or.inr (slot_ne (Or.inl (wT hw 58 rfl)) (Or.inl (wT hw 88 rfl)) (by decide) (t := .byte) (t' := .int) (by decide) (by decide)))
  have F229 : Fld Z h213 b oA "count" "I" (.int (Int32.ofNat (n + N))) := Fld.same W216 F202
  have F230 := Exa.wr W216 F203
  have F231 := F188.other W216 (Ne.symm ne182)
  have Z232 : n0 ≤ h213.size := W216.size ▸ Z204
  have O233 := O205.wr W216 f14_
  have P234 : Keep h0 h213 [b, t] := P206.wr W216 (Or.inl (List.mem_of_getElem? (i := 0) rfl))
  have k27 : o_J p e below T212 m 43 #[vR b, vR a, vI (Int32.ofNat N)] [] B_ := fun t_ hh => k26 t_ (st217 t_ hh)
  clear k26 st217 X209 e210
  have F235 : Arv Z h213 t2139 k2140 .byte (Int32.ofNat (o_cap cap (n + N))) es187 (.int 0) := by rw [hcc]; exact F231
  have k28 : o_J p e below T212 m 44 #[vR b, vR a, vI (Int32.ofNat N)] [.ref b] B_ := fun t_ hh => k27 t_ (by
   refine XS.aloadN X214.here hx rfl (hb hby o_h188) rfl rfl ?_
   exact hh)
  clear k27
  obtain ⟨fs, hr, hrun, hended, hW, hsame⟩ := X214.leave (v := some (.ref b)) (fun h => by rw [Bd.returns] at h; cases h)
  refine ⟨_, _, (o_from hB_ (k28 _ (retOut X214 hx (t := .object oA) Bd.returns rfl (Or.inr (Or.inr (Or.inr (Or.inr ⟨rfl, rfl, rfl⟩)))) (hb hby o_h189) hr))), hrun, hended, _, _, rfl, ?_, ⟨_, rfl⟩, hW, hsame.mono (o_l rfl) (o_l rfl)⟩
  show Q_rmAs Z b t kt cap ds n a ta ka N vs h0 n0 _ T212.heap _
  rw [e215]
  exact ⟨t2139, k2140, es187, rfl, N218, P234, F219, F227, F228, F229, F235, F230, (by rw [hcc]; exact o_two hn F148 F189), (Or.inr H0153), F149, ne182, trivial⟩
def Q_rmSa (Z : State) (b : Addr) (t : Addr) (kt : ClassId) (cap : Nat) (ds : List Value) (us : List Int32) (a : Addr) (ta : Addr) (ka : ClassId) (cs : List Int32) (h0 : Heap) (n0 : Nat) (v : Option Value) (h : Heap) (L : List Loc) : Prop := ∃ t2 : Addr, ∃ k2 : ClassId, ∃ es : List Value, v = some (.ref b) ∧ Fr n0 L ∧ Keep h0 h [b, t] ∧ Exa Z h b oB ∧ Fld Z h b oA "value" "[B" (.ref t2) ∧ Fld Z h b oA "coder" "B" (.int (0 : Int32)) ∧ Fld Z h b oA "count" "I" (.int (Int32.ofNat (List.length (us ++ cs)))) ∧ Arv Z h t2 k2 .byte (Int32.ofNat (o_cap cap (List.length us + List.length cs))) es (.int (0 : Int32)) ∧ Exa Z h t2 "[B" ∧ (es.length = (o_cap cap (List.length us + List.length cs)) ∧ es.take (List.length (us ++ cs)) = o_by (us ++ cs)) ∧ (t2 = t ∨ h0.size ≤ t2) ∧ n0 ≤ t2 ∧ b ≠ t2 ∧ True
theorem o_h190 : plainName oB = true := by first | (simp [plainName, overriddenIn]; done) | decide +kernel
theorem o_h191 : decode jdk_67_method_7_code 0 = .ok (.aload_n 0, 1) := by decide +kernel
theorem o_h192 : decode jdk_67_method_7_code 1 = .ok (.aload_n 1, 1) := by decide +kernel
theorem o_h193 : decode jdk_67_method_7_code 2 = .ok (.invokespecial 29, 3) := by decide +kernel
theorem o_h194 : parseMethodDescriptor "(Ljava/lang/String;)Ljava/lang/AbstractStringBuilder;" = some ⟨[.object oS], some (.object oA)⟩ := by decide +kernel
theorem o_h195 : decode jdk_67_method_7_code 5 = .ok (.pop, 1) := by decide +kernel
theorem o_h196 : decode jdk_67_method_7_code 6 = .ok (.aload_n 0, 1) := by decide +kernel
theorem o_h197 : decode jdk_67_method_7_code 7 = .ok (.areturn, 1) := by decide +kernel
theorem rmSa (l : Launch) (Z : State) (a0 : Array Value) (hw : ∀ d ∈ tables_1, d.before a0 Z = true) (ws : List Jvm.Cond) (b : Addr) (t : Addr) (kt : ClassId) (cap : Nat) (ds : List Value) (us : List Int32) (a : Addr) (ta : Addr) (ka : ClassId) (cs : List Int32) (h0 : Heap) (n0 : Nat) (Z0 : n0 ≤ h0.size) (f0_ : Exa Z h0 b oB) (f1_ : Fld Z h0 b oA "value" "[B" (.ref t)) (f2_ : Fld Z h0 b oA "coder" "B" (.int (0 : Int32))) (f3_ : Fld Z h0 b oA "count" "I" (.int (Int32.ofNat (List.length us)))) (f4_ : Arv Z h0 t kt .byte (Int32.ofNat cap) ds (.int (0 : Int32))) (f5_ : Exa Z h0 t "[B") (f6_ : Exa Z h0 a oS) (f7_ : Fld Z h0 a oS "value" "[B" (.ref ta)) (f8_ : Fld Z h0 a oS "coder" "B" (.int (0 : Int32))) (f9_ : Arv Z h0 ta ka .byte (Int32.ofNat (List.length cs)) (o_by cs) (.int (0 : Int32))) (hdc : ds.length = cap ∧ ds.take (List.length us) = o_by us) (hn : List.length us ≤ cap) (hcap : o_cap cap (List.length us + List.length cs) ≤ 160) (f13_ : n0 ≤ b) (f14_ : n0 ≤ t) (f15_ : b ≠ t) (f16_ : ta ≠ t) (f17_ : a ≠ t) (f18_ : ta ≠ b) (f19_ : a ≠ b) (f20_ : Old Z n0 h0) (ci : Int32) (sC : Sta Z Z.heap oS "COMPACT_STRINGS" "Z" (.int ci)) (hc : ¬ ci = 0) :
    o_Met l (⟨oB, "append", "(Ljava/lang/String;)Ljava/lang/StringBuilder;"⟩ : MethodName) jdk_67_method_7_code 2 (some (.object oB)) ws (rO 5 1 160 76) #[.ref b, .ref a] Z h0 (Q_rmSa Z b t kt cap ds us a ta ka cs h0 n0) := by
 refine MetFree.of_bodySF (plainFor_of_name o_h190) hisR ?_
 intro p e s m args below meth c s₁ Bd hml0 hP hK
 obtain ⟨rfl, hZ, hh⟩ := hP
 have hx := Bd.exec
 have hby := Bd.bytes
 have hml : c.maxLocals = 2 := hml0
 have hown : s.vm.findClass oB = some m.cls := findClass_of_methodNamed Bd.named
 have hnm := (name_of_methodNamed Bd.named Bd.method).1
 have X0 : Stand p l e (rO 5 1 160 76) s m #[.ref b, .ref a] below meth c s₁ [] 0 0 := Stand.of_body Bd
 have e0 : s₁.heap = h0 := by rw [← hh, Bd.state]; rfl
 have N0 := Fr.nil n0
 obtain ⟨B_, hB_⟩ : ∃ z, z = s₁.setTop (entryFrame m #[.ref b, .ref a] 2) := ⟨_, rfl⟩
 have k0 : o_K p e below (s₁.setTop (mkF m 0 #[.val (.ref b), .val (.ref a)] [])) B_ := by rw [hB_]; exact fun t k => castTop (by clear k; first | (simp [entryFrame, mkF, argsToLocals, Value.category, maxLocals]; done) | rfl) k
 have K0 : Keep h0 h0 [b, t] := Keep.refl _ _
 have k1 : o_J p e below s₁ m 2 #[vR b, vR a] [.ref a, .ref b] B_ := fun t_ hh => k0 t_ (by
  refine XS.aloadN X0.here hx rfl (hb hby o_h191) rfl rfl ?_
  refine XS.aloadN X0.here hx rfl (hb hby o_h192) rfl rfl ?_
  exact hh)
 obtain ⟨_, _, ⟨T21, L22, k_23, n_24⟩, -, X25, ⟨Lc26, hQ27, l_28, y_29, z_30⟩, st31⟩ := superBack X0 hx hZ (y := ⟨oA, "append", "(Ljava/lang/String;)Ljava/lang/AbstractStringBuilder;"⟩) hown (wT hw 71 rfl) (o_sameSelf (wT hw 72 rfl) (wT hw 92 rfl) (by decide) rfl) (wT hw 72 rfl) (wT hw 73 rfl) (by decide) (backOf (W := 0) (rmAs l Z a0 hw [] b t kt cap ds (List.length us) a ta ka (List.length cs) (o_by cs) h0 n0 Z0 f0_ f1_ f2_ f3_ f4_ f5_ f6_ f7_ f8_ f9_ hdc.1 hn (o_by_len cs) hcap f13_ f14_ f15_ f16_ f17_ f18_ f19_ f20_ ci sC hc) hZ (wT hw 75 rfl) (wT hw 51 rfl) (by decide) (by decide)) e0 (Ins.self f0_) (g := (mkF m 2 #[vR b, vR a] [.ref a, .ref b])) rfl (by rw [hml]; rfl) (wT hw 75 rfl) (argsL := [.ref a]) (rest := []) (lenOf o_h194 rfl) rfl (o_w0 rfl) (hb hby o_h193) (fun _ _ => ⟨rfl, e0, o_l rfl, o_l rfl⟩)
 dsimp only [Pt.U, Pt.locs, Pt.cells, Pt.slots] at X25 l_28 y_29 z_30 st31 hQ27
 subst l_28 y_29 z_30
 obtain ⟨t233, k234, es35, rfl, N32, K46, F36, F37, F38, F39, F40, F41, F42, F43, F44, F45, -⟩ := hQ27
 have N47 := Fr.app N0 N32
 have F48 := f0_.keep K46
 have F49 := f5_.keep K46
 have F50 := f6_.keep K46
 have F51 := f7_.keep K46 (ninS f19_ (ninS f17_ nin0))
 have F52 := f8_.keep K46 (ninS f19_ (ninS f17_ nin0))
 have F53 := f9_.keep K46 (ninS f18_ (ninS f16_ nin0))
 have Z54 : n0 ≤ T21.heap.size := Nat.le_trans Z0 K46.1
 have O55 := f20_.keep K46 (allS f13_ (allS f14_ all0))
 have P56 : Keep h0 T21.heap [b, t] := K0.trans K46 (allS (P := fun x => x ∈ [b, t] ∨ h0.size ≤ x) (Or.inl (List.mem_of_getElem? (i := 0) rfl)) (allS (P := fun x => x ∈ [b, t] ∨ h0.size ≤ x) (Or.inl (List.mem_of_getElem? (i := 1) rfl)) all0))
 have e57 : T21.heap = T21.heap := rfl
 have k2 : o_J p e below T21 m 5 #[vR b, vR a] [.ref b] B_ := fun t_ hh => k1 t_ (st31.trans hh)
 clear k1 st31
 have F58 : Fld Z T21.heap b oA "count" "I" (.int (Int32.ofNat (List.length (us ++ cs)))) := by rw [o_lenA]; exact F39
 have k3 : o_J p e below T21 m 7 #[vR b, vR a] [.ref b] B_ := fun t_ hh => k2 t_ (by
  refine XS.pop X25.here hx rfl (hb hby o_h195) rfl rfl ?_
  refine XS.aloadN X25.here hx rfl (hb hby o_h196) rfl rfl ?_
  exact hh)
 clear k2
 obtain ⟨fs, hr, hrun, hended, hW, hsame⟩ := X25.leave (v := some (.ref b)) (fun h => by rw [Bd.returns] at h; cases h)
 refine ⟨_, _, (o_from hB_ (k3 _ (retOut X25 hx (t := .object oB) Bd.returns rfl (Or.inr (Or.inr (Or.inr (Or.inr ⟨rfl, rfl, rfl⟩)))) (hb hby o_h197) hr))), hrun, hended, _, _, rfl, ?_, ⟨_, rfl⟩, hW, hsame.mono (o_l rfl) (o_l rfl)⟩
 show Q_rmSa Z b t kt cap ds us a ta ka cs h0 n0 _ T21.heap _
 rw [e57]
 exact ⟨t233, k234, es35, rfl, N47, P56, F36, F37, F38, F58, F40, F41, (o_chars hdc F42), F43, F44, F45, trivial⟩
def Q_rmAi (Z : State) (b : Addr) (h0 : Heap) (n0 : Nat) (v : Option Value) (h : Heap) (L : List Loc) : Prop := ∃ t2 : Addr, ∃ k2 : ClassId, v = none ∧ Fr n0 L ∧ Keep h0 h [b] ∧ Exa Z h b oB ∧ Fld Z h b oA "value" "[B" (.ref t2) ∧ Fld Z h b oA "coder" "B" (.int (0 : Int32)) ∧ Fld Z h b oA "count" "I" (.int (0 : Int32)) ∧ Arv Z h t2 k2 .byte (Int32.ofNat 16) (List.replicate 16 (.int (0 : Int32))) (.int (0 : Int32)) ∧ Exa Z h t2 "[B" ∧ n0 ≤ t2 ∧ h0.size ≤ t2 ∧ True
theorem o_h198 : decode jdk_68_method_2_code 0 = .ok (.aload_n 0, 1) := by decide +kernel
theorem o_h199 : decode jdk_68_method_2_code 1 = .ok (.invokespecial 3, 3) := by decide +kernel
theorem o_h200 : decode jdk_68_method_2_code 4 = .ok (.getstatic 18, 3) := by decide +kernel
theorem o_h201 : decode jdk_68_method_2_code 7 = .ok (.ifCond .eq 18, 3) := by decide +kernel
theorem o_h202 : decode jdk_68_method_2_code 10 = .ok (.aload_n 0, 1) := by decide +kernel
theorem o_h203 : decode jdk_68_method_2_code 11 = .ok (.iload_n 1, 1) := by decide +kernel
theorem o_h204 : decode jdk_68_method_2_code 12 = .ok (.newarray .byte, 2) := by decide +kernel
theorem o_h205 : decode jdk_68_method_2_code 14 = .ok (.putfield 15, 3) := by decide +kernel
theorem o_h206 : decode jdk_68_method_2_code 17 = .ok (.aload_n 0, 1) := by decide +kernel
theorem o_h207 : decode jdk_68_method_2_code 18 = .ok (.iconst 0, 1) := by decide +kernel
theorem o_h208 : decode jdk_68_method_2_code 19 = .ok (.putfield 22, 3) := by decide +kernel
theorem o_h209 : decode jdk_68_method_2_code 22 = .ok (.goto 16, 3) := by decide +kernel
theorem o_h210 : decode jdk_68_method_2_code 38 = .ok (.return_, 1) := by decide +kernel
theorem rmAi (l : Launch) (Z : State) (a0 : Array Value) (hw : ∀ d ∈ tables_1, d.before a0 Z = true) (ws : List Jvm.Cond) (b : Addr) (h0 : Heap) (n0 : Nat) (Z0 : n0 ≤ h0.size) (f0_ : Exa Z h0 b oB) (f1_ : Fld Z h0 b oA "value" "[B" .null) (f2_ : Fld Z h0 b oA "coder" "B" (.int (0 : Int32))) (f3_ : Fld Z h0 b oA "count" "I" (.int (0 : Int32))) (f4_ : n0 ≤ b) (f5_ : Old Z n0 h0) (ci : Int32) (sC : Sta Z Z.heap oS "COMPACT_STRINGS" "Z" (.int ci)) (hc : ¬ ci = 0) :
    o_Met l (⟨oA, "<init>", "(I)V"⟩ : MethodName) jdk_68_method_2_code 2 none ws (rO 1 1 16 12) #[.ref b, (.int 16)] Z h0 (Q_rmAi Z b h0 n0) := by
 refine MetFree.of_bodySF (plainFor_of_name o_h33) hisR ?_
 intro p e s m args below meth c s₁ Bd hml0 hP hK
 obtain ⟨rfl, hZ, hh⟩ := hP
 have hx := Bd.exec
 have hby := Bd.bytes
 have hml : c.maxLocals = 2 := hml0
 have hown : s.vm.findClass oA = some m.cls := findClass_of_methodNamed Bd.named
 have hnm := (name_of_methodNamed Bd.named Bd.method).1
 have X0 : Stand p l e (rO 1 1 16 12) s m #[.ref b, (.int 16)] below meth c s₁ [] 0 0 := Stand.of_body Bd
 have e0 : s₁.heap = h0 := by rw [← hh, Bd.state]; rfl
 have N0 := Fr.nil n0
 obtain ⟨B_, hB_⟩ : ∃ z, z = s₁.setTop (entryFrame m #[.ref b, (.int 16)] 2) := ⟨_, rfl⟩
 have k0 : o_K p e below (s₁.setTop (mkF m 0 #[.val (.ref b), .val (.int 16)] [])) B_ := by rw [hB_]; exact fun t k => castTop (by clear k; first | (simp [entryFrame, mkF, argsToLocals, Value.category, maxLocals]; done) | rfl) k
 have K0 : Keep h0 h0 [b] := Keep.refl _ _
 have k1 : o_J p e below s₁ m 1 #[vR b, vI (16 : Int32)] [.ref b] B_ := fun t_ hh => k0 t_ (by
  refine XS.aloadN X0.here hx rfl (hb hby o_h198) rfl rfl ?_
  exact hh)
 obtain ⟨T21, X22, e23, st24⟩ := initO X0 hx hZ hown (wT hw 53 rfl) (wT hw 16 rfl) (wT hw 17 rfl) e0 (g := (mkF m 1 #[vR b, vI (16 : Int32)] [.ref b])) rfl (by rw [hml]; rfl) rfl (hb hby o_h199) (by decide) (W := 0) (o_w0 rfl) (by decide)
 have k2 : o_J p e below T21 m 4 #[vR b, vI (16 : Int32)] [] B_ := fun t_ hh => k1 t_ (st24 t_ hh)
 clear k1 st24
 obtain ⟨T25, X26, e27, st28⟩ := getS X22 hx hZ hown (host := "") (wT hw 54 rfl) Via.refl e23 (Sta.ext f5_.2 sC) (g := (mkF m 4 #[vR b, vI (16 : Int32)] [])) rfl (hb hby o_h200)
 have k3 : o_J p e below T25 m 7 #[vR b, vI (16 : Int32)] [.int ci] B_ := fun t_ hh => k2 t_ (st28 t_ hh)
 clear k2 st28 X22 e23
 have k4 : o_J p e below T25 m 12 #[vR b, vI (16 : Int32)] [(.int 16), .ref b] B_ := fun t_ hh => k3 t_ (by
  refine XS.ifNo X26.here hx rfl (hb hby o_h201) rfl (o_ifF_eq hc) ?_
  refine XS.aloadN X26.here hx rfl (hb hby o_h202) rfl rfl ?_
  refine XS.iloadN X26.here hx rfl (hb hby o_h203) rfl ?_
  exact hh)
 clear k3
 obtain ⟨T29, h30, kA31, X32, e33, E34, A35, EA38, st37⟩ := newPE X26 hx hZ (wT hw 19 rfl) e27 (g := (mkF m 12 #[vR b, vI (16 : Int32)] [(.int 16), .ref b])) rfl (hb hby o_h204) rfl (by decide) (cap := 16) (by decide) (by decide) (by decide) (by decide) (ad := "[B") (by decide)
 obtain ⟨a39, g40⟩ : ∃ z, z = h0.size := ⟨_, rfl⟩
 rw [← g40] at A35 EA38 st37
 have H041 : h0.size ≤ a39 := Nat.le_trans K0.1 (Nat.le_of_eq g40.symm)
 have G42 : n0 ≤ a39 := Nat.le_trans Z0 (Nat.le_of_eq g40.symm)
 have F43 := Exa.ext (h' := h30) E34 f0_
 have F44 := Fld.ext (h' := h30) E34 f1_
 have F45 := Fld.ext (h' := h30) E34 f2_
 have F46 := Fld.ext (h' := h30) E34 f3_
 have Z47 : n0 ≤ h30.size := Nat.le_trans Z0 E34.1
 have O48 := f5_.ext E34
 have P49 : Keep h0 h30 [b] := K0.ext E34
 have V50 : Arv Z h30 a39 kA31 .byte (16 : Int32) [(.int 0), (.int 0), (.int 0), (.int 0), (.int 0), (.int 0), (.int 0), (.int 0), (.int 0), (.int 0), (.int 0), (.int 0), (.int 0), (.int 0), (.int 0), (.int 0)] (.int 0) := Arv.pad (Arv.new A35 (by decide)) (pad_rep [] (.int 0) 16)
 have k5 : o_J p e below T29 m 14 #[vR b, vI (16 : Int32)] [.ref a39, .ref b] B_ := fun t_ hh => k4 t_ (st37 t_ hh)
 clear k4 st37 X26 e27
 obtain ⟨T51, h52, X53, e54, W55, st56⟩ := putF X32 hx hZ hown (host := "") (Or.inl (wT hw 55 rfl)) Via.refl e33 F44 F43 (Or.inl (wT hw 56 rfl)) (wT hw 42 rfl) (ty := .array .byte) (by decide) rfl rfl (g := (mkF m 14 #[vR b, vI (16 : Int32)] [.ref a39, .ref b])) rfl rfl (hb hby o_h205)
 have N57 := Fr.snoc X53 N0 f4_
 have F58 := Exa.wr W55 F43
 have F59 : Fld Z h52 b oA "value" "[B" (.ref a39) := Fld.same W55 F44
 have F60 := Fld.other W55 F45 (Or.inr (slot_ne (Or.inl (wT hw 58 rfl)) (Or.inl (wT hw 56 rfl)) (by decide) (t := .byte) (t' := (.array .byte)) (by decide) (by decide)))
 have F61 := Fld.other W55 F46 (Or.inr (slot_ne (Or.inl (wT hw 88 rfl)) (Or.inl (wT hw 56 rfl)) (by decide) (t := .int) (t' := (.array .byte)) (by decide) (by decide)))
 have F63 := Exa.wr W55 EA38
 have ne65 : b ≠ a39 := by rw [g40]; exact Nat.ne_of_lt f0_.lt
 have F64 := V50.other W55 (Ne.symm ne65)
 have Z66 : n0 ≤ h52.size := W55.size ▸ Z47
 have O67 := O48.wr W55 f4_
 have P68 : Keep h0 h52 [b] := P49.wr W55 (Or.inl (List.mem_of_getElem? (i := 0) rfl))
 have k6 : o_J p e below T51 m 17 #[vR b, vI (16 : Int32)] [] B_ := fun t_ hh => k5 t_ (st56 t_ hh)
 clear k5 st56 X32 e33
 have k7 : o_J p e below T51 m 19 #[vR b, vI (16 : Int32)] [(.int 0), .ref b] B_ := fun t_ hh => k6 t_ (by
  refine XS.aloadN X53.here hx rfl (hb hby o_h206) rfl rfl ?_
  refine XS.iconst X53.here hx rfl (hb hby o_h207) ?_
  exact hh)
 clear k6
 obtain ⟨T69, h70, X71, e72, W73, st74⟩ := putF X53 hx hZ hown (host := "") (Or.inl (wT hw 57 rfl)) Via.refl e54 F60 F58 (Or.inl (wT hw 58 rfl)) (wT hw 42 rfl) (ty := .byte) (by decide) rfl rfl (g := (mkF m 19 #[vR b, vI (16 : Int32)] [(.int 0), .ref b])) rfl rfl (hb hby o_h208)
 have N75 := Fr.snoc X71 N57 f4_
 have F76 := Exa.wr W73 F58
 have F77 := Fld.other W73 F59 (Or.inr (slot_ne (Or.inl (wT hw 56 rfl)) (Or.inl (wT hw 58 rfl)) (by decide) (t := (.array .byte)) (t' := .byte) (by decide) (by decide)))
 have F78 : Fld Z h70 b oA "coder" "B" (.int 0) := Fld.same W73 F60
 have F79 := Fld.other W73 F61 (Or.inr (slot_ne (Or.inl (wT hw 88 rfl)) (Or.inl (wT hw 58 rfl)) (by decide) (t := .int) (t' := .byte) (by decide) (by decide)))
 have F81 := Exa.wr W73 F63
 have F82 := F64.other W73 (Ne.symm ne65)
 have Z83 : n0 ≤ h70.size := W73.size ▸ Z66
 have O84 := O67.wr W73 f4_
 have P85 : Keep h0 h70 [b] := P68.wr W73 (Or.inl (List.mem_of_getElem? (i := 0) rfl))
 have k8 : o_J p e below T69 m 22 #[vR b, vI (16 : Int32)] [] B_ := fun t_ hh => k7 t_ (st74 t_ hh)
 clear k7 st74 X53 e54
 have k9 : o_J p e below T69 m 38 #[vR b, vI (16 : Int32)] [] B_ := fun t_ hh => k8 t_ (by
  refine XS.goto X71.here hx rfl (pc0 := 22) (pc' := 38) rfl (hb hby o_h209) (by decide) (by decide) ?_
  exact hh)
 clear k8
 obtain ⟨fs, hr, hrun, hended, hW, hsame⟩ := X71.leave (v := none) (fun _ => rfl)
 refine ⟨_, _, (o_from hB_ (k9 _ (X71.returnOut hx Bd.returns (hb hby o_h210) hr))), hrun, hended, _, _, rfl, ?_, ⟨_, rfl⟩, hW, hsame.mono (o_l rfl) (o_l rfl)⟩
 show Q_rmAi Z b h0 n0 _ T69.heap _
 rw [e72]
 exact ⟨a39, kA31, rfl, N75, P85, F76, F77, F78, F79, F82, F81, G42, H041, trivial⟩
def Q_rmSi (Z : State) (b : Addr) (h0 : Heap) (n0 : Nat) (v : Option Value) (h : Heap) (L : List Loc) : Prop := ∃ t2 : Addr, ∃ k2 : ClassId, v = none ∧ Fr n0 L ∧ Keep h0 h [b] ∧ Exa Z h b oB ∧ Fld Z h b oA "value" "[B" (.ref t2) ∧ Fld Z h b oA "coder" "B" (.int (0 : Int32)) ∧ Fld Z h b oA "count" "I" (.int (0 : Int32)) ∧ Arv Z h t2 k2 .byte (Int32.ofNat 16) (List.replicate 16 (.int (0 : Int32))) (.int (0 : Int32)) ∧ Exa Z h t2 "[B" ∧ n0 ≤ t2 ∧ h0.size ≤ t2 ∧ True
theorem o_h211 : decode jdk_67_method_1_code 0 = .ok (.aload_n 0, 1) := by decide +kernel
theorem o_h212 : decode jdk_67_method_1_code 1 = .ok (.bipush 16, 2) := by decide +kernel
theorem o_h213 : decode jdk_67_method_1_code 3 = .ok (.invokespecial 1, 3) := by decide +kernel
theorem o_h214 : decode jdk_67_method_1_code 6 = .ok (.return_, 1) := by decide +kernel
theorem rmSi (l : Launch) (Z : State) (a0 : Array Value) (hw : ∀ d ∈ tables_1, d.before a0 Z = true) (ws : List Jvm.Cond) (b : Addr) (h0 : Heap) (n0 : Nat) (Z0 : n0 ≤ h0.size) (f0_ : Exa Z h0 b oB) (f1_ : Fld Z h0 b oA "value" "[B" .null) (f2_ : Fld Z h0 b oA "coder" "B" (.int (0 : Int32))) (f3_ : Fld Z h0 b oA "count" "I" (.int (0 : Int32))) (f4_ : n0 ≤ b) (f5_ : Old Z n0 h0) (ci : Int32) (sC : Sta Z Z.heap oS "COMPACT_STRINGS" "Z" (.int ci)) (hc : ¬ ci = 0) :
    o_Met l (⟨oB, "<init>", "()V"⟩ : MethodName) jdk_67_method_1_code 1 none ws (rO 2 1 16 25) #[.ref b] Z h0 (Q_rmSi Z b h0 n0) := by
 refine MetFree.of_bodySF (plainFor_of_name o_h190) hisR ?_
 intro p e s m args below meth c s₁ Bd hml0 hP hK
 obtain ⟨rfl, hZ, hh⟩ := hP
 have hx := Bd.exec
 have hby := Bd.bytes
 have hml : c.maxLocals = 1 := hml0
 have hown : s.vm.findClass oB = some m.cls := findClass_of_methodNamed Bd.named
 have hnm := (name_of_methodNamed Bd.named Bd.method).1
 have X0 : Stand p l e (rO 2 1 16 25) s m #[.ref b] below meth c s₁ [] 0 0 := Stand.of_body Bd
 have e0 : s₁.heap = h0 := by rw [← hh, Bd.state]; rfl
 have N0 := Fr.nil n0
 obtain ⟨B_, hB_⟩ : ∃ z, z = s₁.setTop (entryFrame m #[.ref b] 1) := ⟨_, rfl⟩
 have k0 : o_K p e below (s₁.setTop (mkF m 0 #[.val (.ref b)] [])) B_ := by rw [hB_]; exact fun t k => castTop (by clear k; first | (simp [entryFrame, mkF, argsToLocals, Value.category, maxLocals]; done) | rfl) k
 have K0 : Keep h0 h0 [b] := Keep.refl _ _
 have k1 : o_J p e below s₁ m 3 #[vR b] [(.int 16), .ref b] B_ := fun t_ hh => k0 t_ (by
  refine XS.aloadN X0.here hx rfl (hb hby o_h211) rfl rfl ?_
  refine XS.bipush X0.here hx rfl (hb hby o_h212) ?_
  exact hh)
 obtain ⟨_, _, ⟨T21, L22, k_23, n_24⟩, -, X25, ⟨Lc26, hQ27, l_28, y_29, z_30⟩, st31⟩ := X0.specialBack hx (y := ⟨oA, "<init>", "(I)V"⟩) rfl hown (mvT hZ (wT hw 47 rfl)) (mvT hZ (wT hw 48 rfl)) (mvT hZ (wT hw 52 rfl)) (by decide) (backOf (W := 0) (rmAi l Z a0 hw [] b h0 n0 Z0 f0_ f1_ f2_ f3_ f4_ f5_ ci sC hc) hZ (wT hw 52 rfl) (wT hw 51 rfl) (by decide) (by decide)) (g := (mkF m 3 #[vR b] [(.int 16), .ref b])) rfl (by rw [hml]; rfl) (Steps.refl _) (a := b) (argsL := [(.int 16)]) (rest := []) (lenOf o_h175 rfl) rfl (o_w0 rfl) (hb hby o_h213) (fun _ _ => ⟨rfl, e0, o_l rfl, o_l rfl⟩)
 dsimp only [Pt.U, Pt.locs, Pt.cells, Pt.slots] at X25 l_28 y_29 z_30 st31 hQ27
 subst l_28 y_29 z_30
 obtain ⟨t233, k234, rfl, N32, K43, F35, F36, F37, F38, F39, F40, F41, F42, -⟩ := hQ27
 have N44 := Fr.app N0 N32
 have H045 : h0.size ≤ t233 := Nat.le_trans K0.1 F42
 have F46 := f0_.keep K43
 have Z47 : n0 ≤ T21.heap.size := Nat.le_trans Z0 K43.1
 have O48 := f5_.keep K43 (allS f4_ all0)
 have P49 : Keep h0 T21.heap [b] := K0.trans K43 (allS (P := fun x => x ∈ [b] ∨ h0.size ≤ x) (Or.inl (List.mem_of_getElem? (i := 0) rfl)) all0)
 have e50 : T21.heap = T21.heap := rfl
 have k2 : o_J p e below T21 m 6 #[vR b] [] B_ := fun t_ hh => k1 t_ (st31.trans hh)
 clear k1 st31
 obtain ⟨fs, hr, hrun, hended, hW, hsame⟩ := X25.leave (v := none) (fun _ => rfl)
 refine ⟨_, _, (o_from hB_ (k2 _ (X25.returnOut hx Bd.returns (hb hby o_h214) hr))), hrun, hended, _, _, rfl, ?_, ⟨_, rfl⟩, hW, hsame.mono (o_l rfl) (o_l rfl)⟩
 show Q_rmSi Z b h0 n0 _ T21.heap _
 rw [e50]
 exact ⟨t233, k234, rfl, N44, P49, F35, F36, F37, F38, F39, F40, F41, H045, trivial⟩
def Q_rmGv (Z : State) (b : Addr) (t : Addr) (h0 : Heap) (n0 : Nat) (v : Option Value) (h : Heap) (L : List Loc) : Prop := v = some (.ref t) ∧ Fr n0 L ∧ h = h0
theorem o_h215 : decode jdk_68_method_64_code 0 = .ok (.aload_n 0, 1) := by decide +kernel
theorem o_h216 : decode jdk_68_method_64_code 1 = .ok (.getfield 15, 3) := by decide +kernel
theorem o_h217 : decode jdk_68_method_64_code 4 = .ok (.areturn, 1) := by decide +kernel
theorem rmGv (l : Launch) (Z : State) (a0 : Array Value) (hw : ∀ d ∈ tables_1, d.before a0 Z = true) (ws : List Jvm.Cond) (b : Addr) (t : Addr) (h0 : Heap) (n0 : Nat) (Z0 : n0 ≤ h0.size) (f0_ : Fld Z h0 b oA "value" "[B" (.ref t))  :
    o_Met l (⟨oA, "getValue", "()[B"⟩ : MethodName) jdk_68_method_64_code 1 (some (.array .byte)) ws (rO 0 0 0 0) #[.ref b] Z h0 (Q_rmGv Z b t h0 n0) := by
 refine MetFree.of_bodySF (plainFor_of_name o_h33) hisR ?_
 intro p e s m args below meth c s₁ Bd hml0 hP hK
 obtain ⟨rfl, hZ, hh⟩ := hP
 have hx := Bd.exec
 have hby := Bd.bytes
 have hml : c.maxLocals = 1 := hml0
 have hown : s.vm.findClass oA = some m.cls := findClass_of_methodNamed Bd.named
 have hnm := (name_of_methodNamed Bd.named Bd.method).1
 have X0 : Stand p l e (rO 0 0 0 0) s m #[.ref b] below meth c s₁ [] 0 0 := Stand.of_body Bd
 have e0 : s₁.heap = h0 := by rw [← hh, Bd.state]; rfl
 have N0 := Fr.nil n0
 obtain ⟨B_, hB_⟩ : ∃ z, z = s₁.setTop (entryFrame m #[.ref b] 1) := ⟨_, rfl⟩
 have k0 : o_K p e below (s₁.setTop (mkF m 0 #[.val (.ref b)] [])) B_ := by rw [hB_]; exact fun t k => castTop (by clear k; first | (simp [entryFrame, mkF, argsToLocals, Value.category, maxLocals]; done) | rfl) k
 have k1 : o_J p e below s₁ m 1 #[vR b] [.ref b] B_ := fun t_ hh => k0 t_ (by
  refine XS.aloadN X0.here hx rfl (hb hby o_h215) rfl rfl ?_
  exact hh)
 obtain ⟨T21, X22, e23, st24⟩ := getF X0 hx hZ hown (host := "") (Or.inl (wT hw 55 rfl)) Via.refl e0 f0_ (g := (mkF m 1 #[vR b] [.ref b])) rfl rfl (hb hby o_h216)
 have k2 : o_J p e below T21 m 4 #[vR b] [.ref t] B_ := fun t_ hh => k1 t_ (st24 t_ hh)
 clear k1 st24
 obtain ⟨fs, hr, hrun, hended, hW, hsame⟩ := X22.leave (v := some (.ref t)) (fun h => by rw [Bd.returns] at h; cases h)
 refine ⟨_, _, (o_from hB_ (k2 _ (retOut X22 hx (t := .array .byte) Bd.returns rfl (Or.inr (Or.inr (Or.inr (Or.inr ⟨rfl, rfl, rfl⟩)))) (hb hby o_h217) hr))), hrun, hended, _, _, rfl, ?_, ⟨_, rfl⟩, hW, hsame.mono (o_l rfl) (o_l rfl)⟩
 show Q_rmGv Z b t h0 n0 _ T21.heap _
 rw [e23]
 exact ⟨rfl, N0, rfl⟩
def Q_rmAl (Z : State) (b : Addr) (n : Nat) (h0 : Heap) (n0 : Nat) (v : Option Value) (h : Heap) (L : List Loc) : Prop := v = some (.int (Int32.ofNat n)) ∧ Fr n0 L ∧ h = h0
theorem o_h218 : decode jdk_68_method_6_code 0 = .ok (.aload_n 0, 1) := by decide +kernel
theorem o_h219 : decode jdk_68_method_6_code 1 = .ok (.getfield 79, 3) := by decide +kernel
theorem o_h220 : decode jdk_68_method_6_code 4 = .ok (.ireturn, 1) := by decide +kernel
theorem rmAl (l : Launch) (Z : State) (a0 : Array Value) (hw : ∀ d ∈ tables_1, d.before a0 Z = true) (ws : List Jvm.Cond) (b : Addr) (n : Nat) (h0 : Heap) (n0 : Nat) (Z0 : n0 ≤ h0.size) (f0_ : Fld Z h0 b oA "count" "I" (.int (Int32.ofNat n)))  :
    o_Met l (⟨oA, "length", "()I"⟩ : MethodName) jdk_68_method_6_code 1 (some .int) ws (rO 0 0 0 0) #[.ref b] Z h0 (Q_rmAl Z b n h0 n0) := by
 refine MetFree.of_bodySF (plainFor_of_name o_h33) hisR ?_
 intro p e s m args below meth c s₁ Bd hml0 hP hK
 obtain ⟨rfl, hZ, hh⟩ := hP
 have hx := Bd.exec
 have hby := Bd.bytes
 have hml : c.maxLocals = 1 := hml0
 have hown : s.vm.findClass oA = some m.cls := findClass_of_methodNamed Bd.named
 have hnm := (name_of_methodNamed Bd.named Bd.method).1
 have X0 : Stand p l e (rO 0 0 0 0) s m #[.ref b] below meth c s₁ [] 0 0 := Stand.of_body Bd
 have e0 : s₁.heap = h0 := by rw [← hh, Bd.state]; rfl
 have N0 := Fr.nil n0
 obtain ⟨B_, hB_⟩ : ∃ z, z = s₁.setTop (entryFrame m #[.ref b] 1) := ⟨_, rfl⟩
 have k0 : o_K p e below (s₁.setTop (mkF m 0 #[.val (.ref b)] [])) B_ := by rw [hB_]; exact fun t k => castTop (by clear k; first | (simp [entryFrame, mkF, argsToLocals, Value.category, maxLocals]; done) | rfl) k
 have k1 : o_J p e below s₁ m 1 #[vR b] [.ref b] B_ := fun t_ hh => k0 t_ (by
  refine XS.aloadN X0.here hx rfl (hb hby o_h218) rfl rfl ?_
  exact hh)
 obtain ⟨T21, X22, e23, st24⟩ := getF X0 hx hZ hown (host := "") (Or.inl (wT hw 87 rfl)) Via.refl e0 f0_ (g := (mkF m 1 #[vR b] [.ref b])) rfl rfl (hb hby o_h219)
 have k2 : o_J p e below T21 m 4 #[vR b] [(.int (Int32.ofNat n))] B_ := fun t_ hh => k1 t_ (st24 t_ hh)
 clear k1 st24
 obtain ⟨fs, hr, hrun, hended, hW, hsame⟩ := X22.leave (v := some (.int (Int32.ofNat n))) (fun h => by rw [Bd.returns] at h; cases h)
 refine ⟨_, _, (o_from hB_ (k2 _ (retOut X22 hx (t := .int) Bd.returns rfl (Or.inl ⟨rfl, (by simp), _, rfl⟩) (hb hby o_h220) hr))), hrun, hended, _, _, rfl, ?_, ⟨_, rfl⟩, hW, hsame.mono (o_l rfl) (o_l rfl)⟩
 show Q_rmAl Z b n h0 n0 _ T21.heap _
 rw [e23]
 exact ⟨rfl, N0, rfl⟩
def Q_rmSl (Z : State) (b : Addr) (n : Nat) (h0 : Heap) (n0 : Nat) (v : Option Value) (h : Heap) (L : List Loc) : Prop := v = some (.int (Int32.ofNat n)) ∧ Fr n0 L ∧ h = h0
theorem o_h221 : decode jdk_67_method_93_code 0 = .ok (.aload_n 0, 1) := by decide +kernel
theorem o_h222 : decode jdk_67_method_93_code 1 = .ok (.invokespecial 343, 3) := by decide +kernel
theorem o_h223 : decode jdk_67_method_93_code 4 = .ok (.ireturn, 1) := by decide +kernel
theorem rmSl (l : Launch) (Z : State) (a0 : Array Value) (hw : ∀ d ∈ tables_1, d.before a0 Z = true) (ws : List Jvm.Cond) (b : Addr) (n : Nat) (h0 : Heap) (n0 : Nat) (Z0 : n0 ≤ h0.size) (f0_ : Exa Z h0 b oB) (f1_ : Fld Z h0 b oA "count" "I" (.int (Int32.ofNat n)))  :
    o_Met l (⟨oB, "length", "()I"⟩ : MethodName) jdk_67_method_93_code 1 (some .int) ws (rO 1 0 0 12) #[.ref b] Z h0 (Q_rmSl Z b n h0 n0) := by
 refine MetFree.of_bodySF (plainFor_of_name o_h190) hisR ?_
 intro p e s m args below meth c s₁ Bd hml0 hP hK
 obtain ⟨rfl, hZ, hh⟩ := hP
 have hx := Bd.exec
 have hby := Bd.bytes
 have hml : c.maxLocals = 1 := hml0
 have hown : s.vm.findClass oB = some m.cls := findClass_of_methodNamed Bd.named
 have hnm := (name_of_methodNamed Bd.named Bd.method).1
 have X0 : Stand p l e (rO 1 0 0 12) s m #[.ref b] below meth c s₁ [] 0 0 := Stand.of_body Bd
 have e0 : s₁.heap = h0 := by rw [← hh, Bd.state]; rfl
 have N0 := Fr.nil n0
 obtain ⟨B_, hB_⟩ : ∃ z, z = s₁.setTop (entryFrame m #[.ref b] 1) := ⟨_, rfl⟩
 have k0 : o_K p e below (s₁.setTop (mkF m 0 #[.val (.ref b)] [])) B_ := by rw [hB_]; exact fun t k => castTop (by clear k; first | (simp [entryFrame, mkF, argsToLocals, Value.category, maxLocals]; done) | rfl) k
 have k1 : o_J p e below s₁ m 1 #[vR b] [.ref b] B_ := fun t_ hh => k0 t_ (by
  refine XS.aloadN X0.here hx rfl (hb hby o_h221) rfl rfl ?_
  exact hh)
 obtain ⟨_, _, ⟨T21, L22, k_23, n_24⟩, -, X25, ⟨Lc26, hQ27, l_28, y_29, z_30⟩, st31⟩ := superBack X0 hx hZ (y := ⟨oA, "length", "()I"⟩) hown (wT hw 161 rfl) (o_sameSelf (wT hw 157 rfl) (wT hw 92 rfl) (by decide) rfl) (wT hw 157 rfl) (wT hw 73 rfl) (by decide) (backOf (W := 0) (rmAl l Z a0 hw [] b n h0 n0 Z0 f1_ ) hZ (wT hw 162 rfl) (wT hw 51 rfl) (by decide) (by decide)) e0 (Ins.self f0_) (g := (mkF m 1 #[vR b] [.ref b])) rfl (by rw [hml]; rfl) (wT hw 162 rfl) (argsL := []) (rest := []) (lenOf o_h167 rfl) rfl (o_w0 rfl) (hb hby o_h222) (fun _ _ => ⟨rfl, e0, o_l rfl, o_l rfl⟩)
 dsimp only [Pt.U, Pt.locs, Pt.cells, Pt.slots] at X25 l_28 y_29 z_30 st31 hQ27
 subst l_28 y_29 z_30
 obtain ⟨rfl, N32, e33⟩ := hQ27
 have N34 := Fr.app N0 N32
 have k2 : o_J p e below T21 m 4 #[vR b] [(.int (Int32.ofNat n))] B_ := fun t_ hh => k1 t_ (st31.trans hh)
 clear k1 st31
 obtain ⟨fs, hr, hrun, hended, hW, hsame⟩ := X25.leave (v := some (.int (Int32.ofNat n))) (fun h => by rw [Bd.returns] at h; cases h)
 refine ⟨_, _, (o_from hB_ (k2 _ (retOut X25 hx (t := .int) Bd.returns rfl (Or.inl ⟨rfl, (by simp), _, rfl⟩) (hb hby o_h223) hr))), hrun, hended, _, _, rfl, ?_, ⟨_, rfl⟩, hW, hsame.mono (o_l rfl) (o_l rfl)⟩
 show Q_rmSl Z b n h0 n0 _ T21.heap _
 rw [e33]
 exact ⟨rfl, N34, rfl⟩
def Q_rmIl (Z : State) (b : Addr) (h0 : Heap) (n0 : Nat) (v : Option Value) (h : Heap) (L : List Loc) : Prop := v = some (.int (1 : Int32)) ∧ Fr n0 L ∧ h = h0
theorem o_h224 : decode jdk_68_method_68_code 0 = .ok (.getstatic 18, 3) := by decide +kernel
theorem o_h225 : decode jdk_68_method_68_code 3 = .ok (.ifCond .eq 14, 3) := by decide +kernel
theorem o_h226 : decode jdk_68_method_68_code 6 = .ok (.aload_n 0, 1) := by decide +kernel
theorem o_h227 : decode jdk_68_method_68_code 7 = .ok (.getfield 22, 3) := by decide +kernel
theorem o_h228 : decode jdk_68_method_68_code 10 = .ok (.ifCond .ne 7, 3) := by decide +kernel
theorem o_h229 : decode jdk_68_method_68_code 13 = .ok (.iconst 1, 1) := by decide +kernel
theorem o_h230 : decode jdk_68_method_68_code 14 = .ok (.goto 4, 3) := by decide +kernel
theorem o_h231 : decode jdk_68_method_68_code 18 = .ok (.ireturn, 1) := by decide +kernel
theorem rmIl (l : Launch) (Z : State) (a0 : Array Value) (hw : ∀ d ∈ tables_1, d.before a0 Z = true) (ws : List Jvm.Cond) (b : Addr) (h0 : Heap) (n0 : Nat) (Z0 : n0 ≤ h0.size) (f0_ : Fld Z h0 b oA "coder" "B" (.int (0 : Int32))) (f1_ : Old Z n0 h0) (ci : Int32) (sC : Sta Z Z.heap oS "COMPACT_STRINGS" "Z" (.int ci)) (hc : ¬ ci = 0) :
    o_Met l (⟨oA, "isLatin1", "()Z"⟩ : MethodName) jdk_68_method_68_code 1 (some .boolean) ws (rO 0 0 0 0) #[.ref b] Z h0 (Q_rmIl Z b h0 n0) := by
 refine MetFree.of_bodySF (plainFor_of_name o_h33) hisR ?_
 intro p e s m args below meth c s₁ Bd hml0 hP hK
 obtain ⟨rfl, hZ, hh⟩ := hP
 have hx := Bd.exec
 have hby := Bd.bytes
 have hml : c.maxLocals = 1 := hml0
 have hown : s.vm.findClass oA = some m.cls := findClass_of_methodNamed Bd.named
 have hnm := (name_of_methodNamed Bd.named Bd.method).1
 have X0 : Stand p l e (rO 0 0 0 0) s m #[.ref b] below meth c s₁ [] 0 0 := Stand.of_body Bd
 have e0 : s₁.heap = h0 := by rw [← hh, Bd.state]; rfl
 have N0 := Fr.nil n0
 obtain ⟨B_, hB_⟩ : ∃ z, z = s₁.setTop (entryFrame m #[.ref b] 1) := ⟨_, rfl⟩
 have k0 : o_K p e below (s₁.setTop (mkF m 0 #[.val (.ref b)] [])) B_ := by rw [hB_]; exact fun t k => castTop (by clear k; first | (simp [entryFrame, mkF, argsToLocals, Value.category, maxLocals]; done) | rfl) k
 obtain ⟨T21, X22, e23, st24⟩ := getS X0 hx hZ hown (host := "") (wT hw 54 rfl) Via.refl e0 (Sta.ext f1_.2 sC) (g := (mkF m 0 #[vR b] [])) rfl (hb hby o_h224)
 have k1 : o_J p e below T21 m 3 #[vR b] [.int ci] B_ := fun t_ hh => k0 t_ (st24 t_ hh)
 clear st24
 have k2 : o_J p e below T21 m 7 #[vR b] [.ref b] B_ := fun t_ hh => k1 t_ (by
  refine XS.ifNo X22.here hx rfl (hb hby o_h225) rfl (o_ifF_eq hc) ?_
  refine XS.aloadN X22.here hx rfl (hb hby o_h226) rfl rfl ?_
  exact hh)
 clear k1
 obtain ⟨T25, X26, e27, st28⟩ := getF X22 hx hZ hown (host := "") (Or.inl (wT hw 57 rfl)) Via.refl e23 f0_ (g := (mkF m 7 #[vR b] [.ref b])) rfl rfl (hb hby o_h227)
 have k3 : o_J p e below T25 m 10 #[vR b] [(.int 0)] B_ := fun t_ hh => k2 t_ (st28 t_ hh)
 clear k2 st28 X22 e23
 have k4 : o_J p e below T25 m 18 #[vR b] [(.int 1)] B_ := fun t_ hh => k3 t_ (by
  refine XS.ifNo X26.here hx rfl (hb hby o_h228) rfl (by decide) ?_
  refine XS.iconst X26.here hx rfl (hb hby o_h229) ?_
  refine XS.goto X26.here hx rfl (pc0 := 14) (pc' := 18) rfl (hb hby o_h230) (by decide) (by decide) ?_
  exact hh)
 clear k3
 obtain ⟨fs, hr, hrun, hended, hW, hsame⟩ := X26.leave (v := some (.int 1)) (fun h => by rw [Bd.returns] at h; cases h)
 refine ⟨_, _, (o_from hB_ (k4 _ (retN X26 hx (t := .boolean) Bd.returns (by simp) (hb hby o_h231) hr))), hrun, hended, _, _, rfl, ?_, ⟨_, rfl⟩, hW, hsame.mono (o_l rfl) (o_l rfl)⟩
 show Q_rmIl Z b h0 n0 _ T25.heap _
 rw [e27]
 exact ⟨rfl, N0, rfl⟩
def Q_rmCl (Z : State) (n : Nat) (h0 : Heap) (n0 : Nat) (v : Option Value) (h : Heap) (L : List Loc) : Prop := v = none ∧ Fr n0 L ∧ h = h0
theorem o_h232 : decode jdk_65_method_131_code 0 = .ok (.iload_n 1, 1) := by decide +kernel
theorem o_h233 : decode jdk_65_method_131_code 1 = .ok (.iload_n 0, 1) := by decide +kernel
theorem o_h234 : decode jdk_65_method_131_code 2 = .ok (.if_icmp .ge 35, 3) := by decide +kernel
theorem o_h235 : decode jdk_65_method_131_code 37 = .ok (.return_, 1) := by decide +kernel
theorem rmCl (l : Launch) (Z : State) (a0 : Array Value) (hw : ∀ d ∈ tables_1, d.before a0 Z = true) (ws : List Jvm.Cond) (n : Nat) (h0 : Heap) (n0 : Nat) (Z0 : n0 ≤ h0.size) (hn : n ≤ 1000)  :
    o_Met l (⟨"java/util/Arrays", "checkLength", "(II)V"⟩ : MethodName) jdk_65_method_131_code 2 none ws (rO 0 0 0 0) #[(.int 0), (.int (Int32.ofNat n))] Z h0 (Q_rmCl Z n h0 n0) := by
 refine MetFree.of_bodySF (plainFor_of_name o_h66) hisR ?_
 intro p e s m args below meth c s₁ Bd hml0 hP hK
 obtain ⟨rfl, hZ, hh⟩ := hP
 have hx := Bd.exec
 have hby := Bd.bytes
 have hml : c.maxLocals = 2 := hml0
 have hown : s.vm.findClass "java/util/Arrays" = some m.cls := findClass_of_methodNamed Bd.named
 have hnm := (name_of_methodNamed Bd.named Bd.method).1
 have X0 : Stand p l e (rO 0 0 0 0) s m #[(.int 0), (.int (Int32.ofNat n))] below meth c s₁ [] 0 0 := Stand.of_body Bd
 have e0 : s₁.heap = h0 := by rw [← hh, Bd.state]; rfl
 have N0 := Fr.nil n0
 obtain ⟨B_, hB_⟩ : ∃ z, z = s₁.setTop (entryFrame m #[(.int 0), (.int (Int32.ofNat n))] 2) := ⟨_, rfl⟩
 have k0 : o_K p e below (s₁.setTop (mkF m 0 #[.val (.int 0), .val (.int (Int32.ofNat n))] [])) B_ := by rw [hB_]; exact fun t k => castTop (by clear k; first | (simp [entryFrame, mkF, argsToLocals, Value.category, maxLocals]; done) | rfl) k
 have k1 : o_J p e below s₁ m 37 #[vI (0 : Int32), vI (Int32.ofNat n)] [] B_ := fun t_ hh => k0 t_ (by
  refine XS.iloadN X0.here hx rfl (hb hby o_h232) rfl ?_
  refine XS.iloadN X0.here hx rfl (hb hby o_h233) rfl ?_
  refine XS.icmpYes X0.here hx rfl (pc0 := 2) (pc' := 37) rfl (hb hby o_h234) rfl (o_icT_ge (o_nneg (by omega))) (by decide) (by decide) ?_
  exact hh)
 obtain ⟨fs, hr, hrun, hended, hW, hsame⟩ := X0.leave (v := none) (fun _ => rfl)
 refine ⟨_, _, (o_from hB_ (k1 _ (X0.returnOut hx Bd.returns (hb hby o_h235) hr))), hrun, hended, _, _, rfl, ?_, ⟨_, rfl⟩, hW, hsame.mono (o_l rfl) (o_l rfl)⟩
 show Q_rmCl Z n h0 n0 _ s₁.heap _
 rw [e0]
 exact ⟨rfl, N0, rfl⟩
def Q_rmCrb (Z : State) (t : Addr) (kt : ClassId) (cap : Nat) (ds : List Value) (n : Nat) (h0 : Heap) (n0 : Nat) (v : Option Value) (h : Heap) (L : List Loc) : Prop := ∃ t2 : Addr, ∃ k2 : ClassId, ∃ es : List Value, v = some (.ref t2) ∧ Fr n0 L ∧ Keep h0 h [] ∧ Arv Z h t2 k2 .byte (Int32.ofNat n) es (.int (0 : Int32)) ∧ es = ds.take n ∧ n0 ≤ t2 ∧ h0.size ≤ t2 ∧ True
theorem o_h236 : decode jdk_65_method_133_code 0 = .ok (.iload_n 1, 1) := by decide +kernel
theorem o_h237 : decode jdk_65_method_133_code 1 = .ok (.iload_n 2, 1) := by decide +kernel
theorem o_h238 : decode jdk_65_method_133_code 2 = .ok (.invokestatic 343, 3) := by decide +kernel
theorem o_h239 : parseMethodDescriptor "(II)V" = some ⟨[.int, .int], none⟩ := by decide +kernel
theorem o_h240 : decode jdk_65_method_133_code 5 = .ok (.iload_n 2, 1) := by decide +kernel
theorem o_h241 : decode jdk_65_method_133_code 6 = .ok (.iload_n 1, 1) := by decide +kernel
theorem o_h242 : decode jdk_65_method_133_code 7 = .ok (.isub, 1) := by decide +kernel
theorem o_h243 : decode jdk_65_method_133_code 8 = .ok (.istore_n 3, 1) := by decide +kernel
theorem o_h244 : decode jdk_65_method_133_code 9 = .ok (.iload_n 3, 1) := by decide +kernel
theorem o_h245 : decode jdk_65_method_133_code 10 = .ok (.newarray .byte, 2) := by decide +kernel
theorem o_h246 : decode jdk_65_method_133_code 12 = .ok (.astore 4, 2) := by decide +kernel
theorem o_h247 : decode jdk_65_method_133_code 14 = .ok (.aload_n 0, 1) := by decide +kernel
theorem o_h248 : decode jdk_65_method_133_code 15 = .ok (.iload_n 1, 1) := by decide +kernel
theorem o_h249 : decode jdk_65_method_133_code 16 = .ok (.aload 4, 2) := by decide +kernel
theorem o_h250 : decode jdk_65_method_133_code 18 = .ok (.iconst 0, 1) := by decide +kernel
theorem o_h251 : decode jdk_65_method_133_code 19 = .ok (.aload_n 0, 1) := by decide +kernel
theorem o_h252 : decode jdk_65_method_133_code 20 = .ok (.arraylength, 1) := by decide +kernel
theorem o_h253 : decode jdk_65_method_133_code 21 = .ok (.iload_n 1, 1) := by decide +kernel
theorem o_h254 : decode jdk_65_method_133_code 22 = .ok (.isub, 1) := by decide +kernel
theorem o_h255 : decode jdk_65_method_133_code 23 = .ok (.iload_n 3, 1) := by decide +kernel
theorem o_h256 : decode jdk_65_method_133_code 24 = .ok (.invokestatic 304, 3) := by decide +kernel
theorem o_h257 : decode jdk_65_method_133_code 27 = .ok (.invokestatic 150, 3) := by decide +kernel
theorem o_h258 : decode jdk_65_method_133_code 30 = .ok (.aload 4, 2) := by decide +kernel
theorem o_h259 : decode jdk_65_method_133_code 32 = .ok (.areturn, 1) := by decide +kernel
theorem rmCrb (l : Launch) (Z : State) (a0 : Array Value) (hw : ∀ d ∈ tables_1, d.before a0 Z = true) (ws : List Jvm.Cond) (t : Addr) (kt : ClassId) (cap : Nat) (ds : List Value) (n : Nat) (h0 : Heap) (n0 : Nat) (Z0 : n0 ≤ h0.size) (f0_ : Arv Z h0 t kt .byte (Int32.ofNat cap) ds (.int (0 : Int32))) (hds : ds.length = cap) (hn : n ≤ cap) (hcap : cap ≤ 160)  :
    o_Met l (⟨"java/util/Arrays", "copyOfRangeByte", "([BII)[B"⟩ : MethodName) jdk_65_method_133_code 5 (some (.array .byte)) ws (rO 1 1 160 18) #[.ref t, (.int 0), (.int (Int32.ofNat n))] Z h0 (Q_rmCrb Z t kt cap ds n h0 n0) := by
 refine MetFree.of_bodySF (plainFor_of_name o_h66) hisR ?_
 intro p e s m args below meth c s₁ Bd hml0 hP hK
 obtain ⟨rfl, hZ, hh⟩ := hP
 have hx := Bd.exec
 have hby := Bd.bytes
 have hml : c.maxLocals = 5 := hml0
 have hown : s.vm.findClass "java/util/Arrays" = some m.cls := findClass_of_methodNamed Bd.named
 have hnm := (name_of_methodNamed Bd.named Bd.method).1
 have X0 : Stand p l e (rO 1 1 160 18) s m #[.ref t, (.int 0), (.int (Int32.ofNat n))] below meth c s₁ [] 0 0 := Stand.of_body Bd
 have e0 : s₁.heap = h0 := by rw [← hh, Bd.state]; rfl
 have N0 := Fr.nil n0
 obtain ⟨B_, hB_⟩ : ∃ z, z = s₁.setTop (entryFrame m #[.ref t, (.int 0), (.int (Int32.ofNat n))] 5) := ⟨_, rfl⟩
 have k0 : o_K p e below (s₁.setTop (mkF m 0 #[.val (.ref t), .val (.int 0), .val (.int (Int32.ofNat n)), .unset, .unset] [])) B_ := by rw [hB_]; exact fun t k => castTop (by clear k; first | (simp [entryFrame, mkF, argsToLocals, Value.category, maxLocals]; done) | rfl) k
 have K0 : Keep h0 h0 [] := Keep.refl _ _
 have k1 : o_J p e below s₁ m 2 #[vR t, vI (0 : Int32), vI (Int32.ofNat n), .unset, .unset] [(.int (Int32.ofNat n)), (.int 0)] B_ := fun t_ hh => k0 t_ (by
  refine XS.iloadN X0.here hx rfl (hb hby o_h236) rfl ?_
  refine XS.iloadN X0.here hx rfl (hb hby o_h237) rfl ?_
  exact hh)
 obtain ⟨_, _, ⟨T21, L22, k_23, n_24⟩, -, X25, ⟨Lc26, hQ27, l_28, y_29, z_30⟩, st31⟩ := Jvm.LawKit.callS X0 hx (y := ⟨"java/util/Arrays", "checkLength", "(II)V"⟩) hown (mvT hZ (wT hw 174 rfl)) (mvT hZ (wT hw 175 rfl)) (mvT hZ (wT hw 111 rfl)) (mvT hZ (wT hw 176 rfl)) (by decide) (backOf (W := 0) (rmCl l Z a0 hw [] n h0 n0 Z0 (by omega) ) hZ (wT hw 176 rfl) (wT hw 111 rfl) (by decide) (by decide)) (g := (mkF m 2 #[vR t, vI (0 : Int32), vI (Int32.ofNat n), .unset, .unset] [(.int (Int32.ofNat n)), (.int 0)])) rfl (by rw [hml]; rfl) (argsL := [(.int 0), (.int (Int32.ofNat n))]) (rest := []) (lenOf o_h239 rfl) rfl (o_w0 rfl) (hb hby o_h238) (fun _ _ => ⟨rfl, e0, o_l rfl, o_l rfl⟩)
 dsimp only [Pt.U, Pt.locs, Pt.cells, Pt.slots] at X25 l_28 y_29 z_30 st31 hQ27
 subst l_28 y_29 z_30
 obtain ⟨rfl, N32, e33⟩ := hQ27
 have N34 := Fr.app N0 N32
 have k2 : o_J p e below T21 m 5 #[vR t, vI (0 : Int32), vI (Int32.ofNat n), .unset, .unset] [] B_ := fun t_ hh => k1 t_ (st31 t_ hh)
 clear k1 st31
 have k3 : o_J p e below T21 m 8 #[vR t, vI (0 : Int32), vI (Int32.ofNat n), .unset, .unset] [(.int ((Int32.ofNat n) - (0 : Int32)))] B_ := fun t_ hh => k2 t_ (by
  refine XS.iloadN X25.here hx rfl (hb hby o_h240) rfl ?_
  refine XS.iloadN X25.here hx rfl (hb hby o_h241) rfl ?_
  refine XS.isub X25.here hx rfl (hb hby o_h242) rfl ?_
  exact hh)
 clear k2
 have k4 : o_J p e below T21 m 8 #[vR t, vI (0 : Int32), vI (Int32.ofNat n), .unset, .unset] [(.int (Int32.ofNat n))] B_ := by have q := k3; rw [o_sub0] at q; exact q
 have k5 : o_J p e below T21 m 10 #[vR t, vI (0 : Int32), vI (Int32.ofNat n), vI (Int32.ofNat n), .unset] [(.int (Int32.ofNat n))] B_ := fun t_ hh => k4 t_ (by
  refine XS.istoreN X25.here hx rfl (hb hby o_h243) rfl (l' := #[vR t, vI (0 : Int32), vI (Int32.ofNat n), vI (Int32.ofNat n), .unset]) rfl ?_
  refine XS.iloadN X25.here hx rfl (hb hby o_h244) rfl ?_
  exact hh)
 clear k4
 obtain ⟨T35, h36, kA37, X38, e39, E40, A41, st43⟩ := newP X25 hx hZ (wT hw 19 rfl) e33 (g := (mkF m 10 #[vR t, vI (0 : Int32), vI (Int32.ofNat n), vI (Int32.ofNat n), .unset] [(.int (Int32.ofNat n))])) rfl (hb hby o_h245) rfl (o_nneg (by omega)) (cap := 160) (by rw [o_natC (by omega)]; omega) (by decide) (by decide) (by decide)
 obtain ⟨a44, g45⟩ : ∃ z, z = h0.size := ⟨_, rfl⟩
 rw [← g45] at A41 st43
 have H046 : h0.size ≤ a44 := Nat.le_trans K0.1 (Nat.le_of_eq g45.symm)
 have G47 : n0 ≤ a44 := Nat.le_trans Z0 (Nat.le_of_eq g45.symm)
 have F48 := f0_.ext E40
 have Z49 : n0 ≤ h36.size := Nat.le_trans Z0 E40.1
 have P50 : Keep h0 h36 [] := K0.ext E40
 have V51 : Arv Z h36 a44 kA37 .byte (Int32.ofNat n) (List.replicate n (.int 0)) (.int 0) := Arv.pad (Arv.new A41 (o_nneg (by omega))) (pad_rep [] (.int 0) n)
 have k6 : o_J p e below T35 m 12 #[vR t, vI (0 : Int32), vI (Int32.ofNat n), vI (Int32.ofNat n), .unset] [.ref a44] B_ := fun t_ hh => k5 t_ (st43 t_ hh)
 clear k5 st43 X25 e33
 obtain ⟨cl52, Ar53, -, S54, Ng55, -, -⟩ := id F48
 have k7 : o_J p e below T35 m 23 #[vR t, vI (0 : Int32), vI (Int32.ofNat n), vI (Int32.ofNat n), vR a44] [(.int ((Int32.ofNat cap) - (0 : Int32))), (.int 0), .ref a44, (.int 0), .ref t] B_ := fun t_ hh => k6 t_ (by
  refine XS.astore X38.here hx rfl (hb hby o_h246) rfl rfl (l' := #[vR t, vI (0 : Int32), vI (Int32.ofNat n), vI (Int32.ofNat n), vR a44]) rfl ?_
  refine XS.aloadN X38.here hx rfl (hb hby o_h247) rfl rfl ?_
  refine XS.iloadN X38.here hx rfl (hb hby o_h248) rfl ?_
  refine XS.aload X38.here hx rfl (hb hby o_h249) rfl rfl ?_
  refine XS.iconst X38.here hx rfl (hb hby o_h250) ?_
  refine XS.aloadN X38.here hx rfl (hb hby o_h251) rfl rfl ?_
  refine X38.arraylength hx (by rw [e39]; exact Ar53.1) (State.isArrayOf_alike hZ.alike Ar53.2.1) (g := (mkF m 20 #[vR t, vI (0 : Int32), vI (Int32.ofNat n), vI (Int32.ofNat n), vR a44] [.ref t, (.int 0), .ref a44, (.int 0), .ref t])) rfl rfl (hb hby o_h252) _ ?_
  rw [len_of S54 Ng55]
  refine XS.iloadN X38.here hx rfl (hb hby o_h253) rfl ?_
  refine XS.isub X38.here hx rfl (hb hby o_h254) rfl ?_
  exact hh)
 clear k6
 have k8 : o_J p e below T35 m 23 #[vR t, vI (0 : Int32), vI (Int32.ofNat n), vI (Int32.ofNat n), vR a44] [(.int (Int32.ofNat cap)), (.int 0), .ref a44, (.int 0), .ref t] B_ := by have q := k7; rw [o_sub0] at q; exact q
 have k9 : o_J p e below T35 m 24 #[vR t, vI (0 : Int32), vI (Int32.ofNat n), vI (Int32.ofNat n), vR a44] [(.int (Int32.ofNat n)), (.int (Int32.ofNat cap)), (.int 0), .ref a44, (.int 0), .ref t] B_ := fun t_ hh => k8 t_ (by
  refine XS.iloadN X38.here hx rfl (hb hby o_h255) rfl ?_
  exact hh)
 clear k8
 obtain ⟨_, _, ⟨T56, L57, k_58, n_59⟩, -, X60, ⟨Lc61, hQ62, l_63, y_64, z_65⟩, st66⟩ := Jvm.LawKit.callS X38 hx (y := ⟨"java/lang/Math", "min", "(II)I"⟩) hown (mvT hZ (wT hw 113 rfl)) (mvT hZ (wT hw 114 rfl)) (mvT hZ (wT hw 105 rfl)) (mvT hZ (wT hw 115 rfl)) (by decide) (backOf (W := 4) (rmMin l Z a0 hw [] cap n h36 n0 Z49 (by omega) (by omega) ) hZ (wT hw 115 rfl) (wT hw 105 rfl) (by decide) (by decide)) (g := (mkF m 24 #[vR t, vI (0 : Int32), vI (Int32.ofNat n), vI (Int32.ofNat n), vR a44] [(.int (Int32.ofNat n)), (.int (Int32.ofNat cap)), (.int 0), .ref a44, (.int 0), .ref t])) rfl (by rw [hml]; rfl) (argsL := [(.int (Int32.ofNat cap)), (.int (Int32.ofNat n))]) (rest := [(.int 0), .ref a44, (.int 0), .ref t]) (lenOf o_h22 rfl) rfl (o_w0 rfl) (hb hby o_h256) (fun _ _ => ⟨rfl, e39, o_l rfl, o_l rfl⟩)
 dsimp only [Pt.U, Pt.locs, Pt.cells, Pt.slots] at X60 l_63 y_64 z_65 st66 hQ62
 subst l_63 y_64 z_65
 obtain ⟨rfl, N67, e68⟩ := hQ62
 have N69 := Fr.app N34 N67
 have k10 : o_J p e below T56 m 27 #[vR t, vI (0 : Int32), vI (Int32.ofNat n), vI (Int32.ofNat n), vR a44] [(.int (Int32.ofNat (min cap n))), (.int 0), .ref a44, (.int 0), .ref t] B_ := fun t_ hh => k9 t_ (st66 t_ hh)
 clear k9 st66 X38 e39
 have k11 : o_J p e below T56 m 27 #[vR t, vI (0 : Int32), vI (Int32.ofNat n), vI (Int32.ofNat n), vR a44] [(.int (Int32.ofNat n)), (.int 0), .ref a44, (.int 0), .ref t] B_ := by have q := k10; rw [Nat.min_eq_right hn] at q; exact q
 obtain ⟨T70, h71, L72, X73, e74, N75, K76, F77, st78⟩ := o_cp X60 hx hZ hown (wT hw 116 rfl) (wT hw 119 rfl) (wT hw 117 rfl) (wT hw 118 rfl) e68 (dp := 0) (nn := n) F48 V51 rfl hn (by omega) (by omega) (by omega) (by omega) List.length_replicate N69 G47 (g := (mkF m 27 #[vR t, vI (0 : Int32), vI (Int32.ofNat n), vI (Int32.ofNat n), vR a44] [(.int (Int32.ofNat n)), (.int 0), .ref a44, (.int 0), .ref t])) rfl (by rw [hml]; rfl) (rest := []) rfl (hb hby o_h257) (by decide) (W := 0) (o_w0 rfl) (by decide)
 have ne80 : t ≠ a44 := by rw [g45]; exact Nat.ne_of_lt f0_.lt
 have F79 := F48.keep K76 (ninS ne80 nin0)
 have Z81 : n0 ≤ h71.size := Nat.le_trans Z49 K76.1
 have P82 : Keep h0 h71 [] := P50.trans K76 (allS (P := fun x => x ∈ [] ∨ h0.size ≤ x) (Or.inr H046) all0)
 have k12 : o_J p e below T70 m 30 #[vR t, vI (0 : Int32), vI (Int32.ofNat n), vI (Int32.ofNat n), vR a44] [] B_ := fun t_ hh => k11 t_ (st78 t_ hh)
 clear k11 st78 X60 e68
 have k13 : o_J p e below T70 m 32 #[vR t, vI (0 : Int32), vI (Int32.ofNat n), vI (Int32.ofNat n), vR a44] [.ref a44] B_ := fun t_ hh => k12 t_ (by
  refine XS.aload X73.here hx rfl (hb hby o_h258) rfl rfl ?_
  exact hh)
 clear k12
 obtain ⟨fs, hr, hrun, hended, hW, hsame⟩ := X73.leave (v := some (.ref a44)) (fun h => by rw [Bd.returns] at h; cases h)
 refine ⟨_, _, (o_from hB_ (k13 _ (retOut X73 hx (t := .array .byte) Bd.returns rfl (Or.inr (Or.inr (Or.inr (Or.inr ⟨rfl, rfl, rfl⟩)))) (hb hby o_h259) hr))), hrun, hended, _, _, rfl, ?_, ⟨_, rfl⟩, hW, hsame.mono (o_l rfl) (o_l rfl)⟩
 show Q_rmCrb Z t kt cap ds n h0 n0 _ T70.heap _
 rw [e74]
 exact ⟨a44, kA37, (List.take 0 (List.replicate n (.int 0)) ++ List.take n ds ++ List.drop (0 + n) (List.replicate n (.int 0))), rfl, N75, P82, F77, o_cr_es, G47, H046, trivial⟩
def Q_rmCr1 (Z : State) (t : Addr) (kt : ClassId) (cap : Nat) (ds : List Value) (n : Nat) (h0 : Heap) (n0 : Nat) (v : Option Value) (h : Heap) (L : List Loc) : Prop := ∃ t2 : Addr, ∃ k2 : ClassId, ∃ es : List Value, v = some (.ref t2) ∧ Fr n0 L ∧ Keep h0 h [] ∧ Arv Z h t2 k2 .byte (Int32.ofNat n) es (.int (0 : Int32)) ∧ es = ds.take n ∧ n0 ≤ t2 ∧ h0.size ≤ t2 ∧ True
theorem o_h260 : decode jdk_65_method_132_code 0 = .ok (.iload_n 1, 1) := by decide +kernel
theorem o_h261 : decode jdk_65_method_132_code 1 = .ok (.ifCond .ne 9, 3) := by decide +kernel
theorem o_h262 : decode jdk_65_method_132_code 4 = .ok (.iload_n 2, 1) := by decide +kernel
theorem o_h263 : decode jdk_65_method_132_code 5 = .ok (.aload_n 0, 1) := by decide +kernel
theorem o_h264 : decode jdk_65_method_132_code 6 = .ok (.arraylength, 1) := by decide +kernel
theorem o_h265 : decode jdk_65_method_132_code 7 = .ok (.if_icmp .eq 10, 3) := by decide +kernel
theorem o_h266 : decode jdk_65_method_132_code 10 = .ok (.aload_n 0, 1) := by decide +kernel
theorem o_h267 : decode jdk_65_method_132_code 11 = .ok (.iload_n 1, 1) := by decide +kernel
theorem o_h268 : decode jdk_65_method_132_code 12 = .ok (.iload_n 2, 1) := by decide +kernel
theorem o_h269 : decode jdk_65_method_132_code 13 = .ok (.invokestatic 339, 3) := by decide +kernel
theorem o_h270 : parseMethodDescriptor "([BII)[B" = some ⟨[.array .byte, .int, .int], some (.array .byte)⟩ := by decide +kernel
theorem o_h271 : decode jdk_65_method_132_code 16 = .ok (.areturn, 1) := by decide +kernel
theorem rmCr1 (l : Launch) (Z : State) (a0 : Array Value) (hw : ∀ d ∈ tables_1, d.before a0 Z = true) (ws : List Jvm.Cond) (t : Addr) (kt : ClassId) (cap : Nat) (ds : List Value) (n : Nat) (h0 : Heap) (n0 : Nat) (Z0 : n0 ≤ h0.size) (f0_ : Arv Z h0 t kt .byte (Int32.ofNat cap) ds (.int (0 : Int32))) (hds : ds.length = cap) (hnl : n < cap) (hcap : cap ≤ 160)  :
    o_Met l (⟨"java/util/Arrays", "copyOfRange", "([BII)[B"⟩ : MethodName) jdk_65_method_132_code 3 (some (.array .byte)) ws (rO 2 1 160 34) #[.ref t, (.int 0), (.int (Int32.ofNat n))] Z h0 (Q_rmCr1 Z t kt cap ds n h0 n0) := by
 refine MetFree.of_bodySF (plainFor_of_name o_h66) hisR ?_
 intro p e s m args below meth c s₁ Bd hml0 hP hK
 obtain ⟨rfl, hZ, hh⟩ := hP
 have hx := Bd.exec
 have hby := Bd.bytes
 have hml : c.maxLocals = 3 := hml0
 have hown : s.vm.findClass "java/util/Arrays" = some m.cls := findClass_of_methodNamed Bd.named
 have hnm := (name_of_methodNamed Bd.named Bd.method).1
 have X0 : Stand p l e (rO 2 1 160 34) s m #[.ref t, (.int 0), (.int (Int32.ofNat n))] below meth c s₁ [] 0 0 := Stand.of_body Bd
 have e0 : s₁.heap = h0 := by rw [← hh, Bd.state]; rfl
 have N0 := Fr.nil n0
 obtain ⟨B_, hB_⟩ : ∃ z, z = s₁.setTop (entryFrame m #[.ref t, (.int 0), (.int (Int32.ofNat n))] 3) := ⟨_, rfl⟩
 have k0 : o_K p e below (s₁.setTop (mkF m 0 #[.val (.ref t), .val (.int 0), .val (.int (Int32.ofNat n))] [])) B_ := by rw [hB_]; exact fun t k => castTop (by clear k; first | (simp [entryFrame, mkF, argsToLocals, Value.category, maxLocals]; done) | rfl) k
 have K0 : Keep h0 h0 [] := Keep.refl _ _
 obtain ⟨cl21, Ar22, -, S23, Ng24, -, -⟩ := id f0_
 have k1 : o_J p e below s₁ m 13 #[vR t, vI (0 : Int32), vI (Int32.ofNat n)] [(.int (Int32.ofNat n)), (.int 0), .ref t] B_ := fun t_ hh => k0 t_ (by
  refine XS.iloadN X0.here hx rfl (hb hby o_h260) rfl ?_
  refine XS.ifNo X0.here hx rfl (hb hby o_h261) rfl (by decide) ?_
  refine XS.iloadN X0.here hx rfl (hb hby o_h262) rfl ?_
  refine XS.aloadN X0.here hx rfl (hb hby o_h263) rfl rfl ?_
  refine X0.arraylength hx (by rw [e0]; exact Ar22.1) (State.isArrayOf_alike hZ.alike Ar22.2.1) (g := (mkF m 6 #[vR t, vI (0 : Int32), vI (Int32.ofNat n)] [.ref t, (.int (Int32.ofNat n))])) rfl rfl (hb hby o_h264) _ ?_
  rw [len_of S23 Ng24]
  refine XS.icmpNo X0.here hx rfl (hb hby o_h265) rfl (o_icF_eq (o_ne32 (by omega) (by omega) (by omega))) ?_
  refine XS.aloadN X0.here hx rfl (hb hby o_h266) rfl rfl ?_
  refine XS.iloadN X0.here hx rfl (hb hby o_h267) rfl ?_
  refine XS.iloadN X0.here hx rfl (hb hby o_h268) rfl ?_
  exact hh)
 obtain ⟨_, _, ⟨T25, L26, k_27, n_28⟩, -, X29, ⟨Lc30, hQ31, l_32, y_33, z_34⟩, st35⟩ := Jvm.LawKit.callS X0 hx (y := ⟨"java/util/Arrays", "copyOfRangeByte", "([BII)[B"⟩) hown (mvT hZ (wT hw 171 rfl)) (mvT hZ (wT hw 172 rfl)) (mvT hZ (wT hw 111 rfl)) (mvT hZ (wT hw 173 rfl)) (by decide) (backOf (W := 0) (rmCrb l Z a0 hw [] t kt cap ds n h0 n0 Z0 f0_ hds (Nat.le_of_lt hnl) hcap ) hZ (wT hw 173 rfl) (wT hw 111 rfl) (by decide) (by decide)) (g := (mkF m 13 #[vR t, vI (0 : Int32), vI (Int32.ofNat n)] [(.int (Int32.ofNat n)), (.int 0), .ref t])) rfl (by rw [hml]; rfl) (argsL := [.ref t, (.int 0), (.int (Int32.ofNat n))]) (rest := []) (lenOf o_h270 rfl) rfl (o_w0 rfl) (hb hby o_h269) (fun _ _ => ⟨rfl, e0, o_l rfl, o_l rfl⟩)
 dsimp only [Pt.U, Pt.locs, Pt.cells, Pt.slots] at X29 l_32 y_33 z_34 st35 hQ31
 subst l_32 y_33 z_34
 obtain ⟨t237, k238, es39, rfl, N36, K44, F40, F41, F42, F43, -⟩ := hQ31
 have N45 := Fr.app N0 N36
 have H046 : h0.size ≤ t237 := Nat.le_trans K0.1 F43
 have F47 := f0_.keep K44 nin0
 have Z48 : n0 ≤ T25.heap.size := Nat.le_trans Z0 K44.1
 have P49 : Keep h0 T25.heap [] := K0.trans K44 (fun _ q => nomatch q)
 have e50 : T25.heap = T25.heap := rfl
 have k2 : o_J p e below T25 m 16 #[vR t, vI (0 : Int32), vI (Int32.ofNat n)] [.ref t237] B_ := fun t_ hh => k1 t_ (st35 t_ hh)
 clear k1 st35
 obtain ⟨fs, hr, hrun, hended, hW, hsame⟩ := X29.leave (v := some (.ref t237)) (fun h => by rw [Bd.returns] at h; cases h)
 refine ⟨_, _, (o_from hB_ (k2 _ (retOut X29 hx (t := .array .byte) Bd.returns rfl (Or.inr (Or.inr (Or.inr (Or.inr ⟨rfl, rfl, rfl⟩)))) (hb hby o_h271) hr))), hrun, hended, _, _, rfl, ?_, ⟨_, rfl⟩, hW, hsame.mono (o_l rfl) (o_l rfl)⟩
 show Q_rmCr1 Z t kt cap ds n h0 n0 _ T25.heap _
 rw [e50]
 exact ⟨t237, k238, es39, rfl, N45, P49, F40, F41, F42, H046, trivial⟩
def Q_rmCr2 (Z : State) (t : Addr) (kt : ClassId) (cap : Nat) (ds : List Value) (n : Nat) (h0 : Heap) (n0 : Nat) (v : Option Value) (h : Heap) (L : List Loc) : Prop := ∃ t2 : Addr, ∃ k2 : ClassId, ∃ es : List Value, v = some (.ref t2) ∧ Fr n0 L ∧ Keep h0 h [] ∧ Arv Z h t2 k2 .byte (Int32.ofNat n) es (.int (0 : Int32)) ∧ es = ds.take n ∧ n0 ≤ t2 ∧ h0.size ≤ t2 ∧ True
theorem o_h272 : decode jdk_65_method_132_code 17 = .ok (.aload_n 0, 1) := by decide +kernel
theorem o_h273 : decode jdk_65_method_132_code 18 = .ok (.invokevirtual 310, 3) := by decide +kernel
theorem o_h274 : decode jdk_65_method_132_code 21 = .ok (.checkcast 311, 3) := by decide +kernel
theorem o_h275 : decode jdk_65_method_132_code 24 = .ok (.areturn, 1) := by decide +kernel
theorem rmCr2 (l : Launch) (Z : State) (a0 : Array Value) (hw : ∀ d ∈ tables_1, d.before a0 Z = true) (ws : List Jvm.Cond) (t : Addr) (kt : ClassId) (cap : Nat) (ds : List Value) (n : Nat) (h0 : Heap) (n0 : Nat) (Z0 : n0 ≤ h0.size) (f0_ : Arv Z h0 t kt .byte (Int32.ofNat cap) ds (.int (0 : Int32))) (f1_ : Exa Z h0 t "[B") (hds : ds.length = cap) (hne : n = cap) (hcap : cap ≤ 160)  :
    o_Met l (⟨"java/util/Arrays", "copyOfRange", "([BII)[B"⟩ : MethodName) jdk_65_method_132_code 3 (some (.array .byte)) ws (rO 1 1 160 14) #[.ref t, (.int 0), (.int (Int32.ofNat n))] Z h0 (Q_rmCr2 Z t kt cap ds n h0 n0) := by
 refine MetFree.of_bodySF (plainFor_of_name o_h66) hisR ?_
 intro p e s m args below meth c s₁ Bd hml0 hP hK
 obtain ⟨rfl, hZ, hh⟩ := hP
 have hx := Bd.exec
 have hby := Bd.bytes
 have hml : c.maxLocals = 3 := hml0
 have hown : s.vm.findClass "java/util/Arrays" = some m.cls := findClass_of_methodNamed Bd.named
 have hnm := (name_of_methodNamed Bd.named Bd.method).1
 have X0 : Stand p l e (rO 1 1 160 14) s m #[.ref t, (.int 0), (.int (Int32.ofNat n))] below meth c s₁ [] 0 0 := Stand.of_body Bd
 have e0 : s₁.heap = h0 := by rw [← hh, Bd.state]; rfl
 have N0 := Fr.nil n0
 obtain ⟨B_, hB_⟩ : ∃ z, z = s₁.setTop (entryFrame m #[.ref t, (.int 0), (.int (Int32.ofNat n))] 3) := ⟨_, rfl⟩
 have k0 : o_K p e below (s₁.setTop (mkF m 0 #[.val (.ref t), .val (.int 0), .val (.int (Int32.ofNat n))] [])) B_ := by rw [hB_]; exact fun t k => castTop (by clear k; first | (simp [entryFrame, mkF, argsToLocals, Value.category, maxLocals]; done) | rfl) k
 have K0 : Keep h0 h0 [] := Keep.refl _ _
 obtain ⟨cl21, Ar22, -, S23, Ng24, -, -⟩ := id f0_
 have k1 : o_J p e below s₁ m 18 #[vR t, vI (0 : Int32), vI (Int32.ofNat n)] [.ref t] B_ := fun t_ hh => k0 t_ (by
  refine XS.iloadN X0.here hx rfl (hb hby o_h260) rfl ?_
  refine XS.ifNo X0.here hx rfl (hb hby o_h261) rfl (by decide) ?_
  refine XS.iloadN X0.here hx rfl (hb hby o_h262) rfl ?_
  refine XS.aloadN X0.here hx rfl (hb hby o_h263) rfl rfl ?_
  refine X0.arraylength hx (by rw [e0]; exact Ar22.1) (State.isArrayOf_alike hZ.alike Ar22.2.1) (g := (mkF m 6 #[vR t, vI (0 : Int32), vI (Int32.ofNat n)] [.ref t, (.int (Int32.ofNat n))])) rfl rfl (hb hby o_h264) _ ?_
  rw [len_of S23 Ng24]
  refine XS.icmpYes X0.here hx rfl (pc0 := 7) (pc' := 17) rfl (hb hby o_h265) rfl (o_icT_eq (by rw [hne])) (by decide) (by decide) ?_
  refine XS.aloadN X0.here hx rfl (hb hby o_h272) rfl rfl ?_
  exact hh)
 obtain ⟨T25, h26, X27, e28, E29, A30, EA31, st32⟩ := o_cl X0 hx hZ hown (wT hw 398 rfl) (wT hw 399 rfl) (wT hw 403 rfl) (wT hw 401 rfl) (wT hw 402 rfl) (wT hw 404 rfl) e0 f0_ f1_ (g := (mkF m 18 #[vR t, vI (0 : Int32), vI (Int32.ofNat n)] [.ref t])) rfl (by rw [hml]; rfl) (rest := []) rfl (hb hby o_h273) (by decide) (W := 0) (cap := 160) (o_w0 rfl) (by decide) (by rw [o_natC (by omega)]; omega) (by decide) (by decide)
 obtain ⟨a33, g34⟩ : ∃ z, z = h0.size := ⟨_, rfl⟩
 rw [← g34] at A30 EA31 st32
 have H035 : h0.size ≤ a33 := Nat.le_trans K0.1 (Nat.le_of_eq g34.symm)
 have G36 : n0 ≤ a33 := Nat.le_trans Z0 (Nat.le_of_eq g34.symm)
 have F37 := f0_.ext E29
 have F38 := Exa.ext (h' := h26) E29 f1_
 have Z39 : n0 ≤ h26.size := Nat.le_trans Z0 E29.1
 have P40 : Keep h0 h26 [] := K0.ext E29
 have F41 : Arv Z h26 a33 kt .byte (Int32.ofNat n) ds (.int 0) := by rw [hne]; exact A30
 have k2 : o_J p e below T25 m 21 #[vR t, vI (0 : Int32), vI (Int32.ofNat n)] [.ref a33] B_ := fun t_ hh => k1 t_ (st32 t_ hh)
 clear k1 st32
 obtain ⟨T42, X43, e44, st45⟩ := castY X27 hx hZ hown (wT hw 405 rfl) e28 (Ins.self EA31) (g := (mkF m 21 #[vR t, vI (0 : Int32), vI (Int32.ofNat n)] [.ref a33])) rfl rfl (hb hby o_h274)
 have k3 : o_J p e below T42 m 24 #[vR t, vI (0 : Int32), vI (Int32.ofNat n)] [.ref a33] B_ := fun t_ hh => k2 t_ (st45 t_ hh)
 clear k2 st45 X27 e28
 obtain ⟨fs, hr, hrun, hended, hW, hsame⟩ := X43.leave (v := some (.ref a33)) (fun h => by rw [Bd.returns] at h; cases h)
 refine ⟨_, _, (o_from hB_ (k3 _ (retOut X43 hx (t := .array .byte) Bd.returns rfl (Or.inr (Or.inr (Or.inr (Or.inr ⟨rfl, rfl, rfl⟩)))) (hb hby o_h275) hr))), hrun, hended, _, _, rfl, ?_, ⟨_, rfl⟩, hW, hsame.mono (o_l rfl) (o_l rfl)⟩
 show Q_rmCr2 Z t kt cap ds n h0 n0 _ T42.heap _
 rw [e44]
 exact ⟨a33, kt, ds, rfl, N0, P40, F41, (by rw [hne, ← hds, List.take_length]), G36, H035, trivial⟩
def Q_rmIa (Z : State) (a : Addr) (b : Addr) (t : Addr) (kt : ClassId) (cap : Nat) (ds : List Value) (n : Nat) (h0 : Heap) (n0 : Nat) (v : Option Value) (h : Heap) (L : List Loc) : Prop := ∃ t2 : Addr, ∃ k2 : ClassId, ∃ es : List Value, v = none ∧ Fr n0 L ∧ Keep h0 h [a] ∧ Exa Z h a oS ∧ Fld Z h a oS "value" "[B" (.ref t2) ∧ Fld Z h a oS "coder" "B" (.int (0 : Int32)) ∧ Arv Z h t2 k2 .byte (Int32.ofNat n) es (.int (0 : Int32)) ∧ es = ds.take n ∧ n0 ≤ t2 ∧ h0.size ≤ t2 ∧ True
theorem o_h276 : decode jdk_42_method_150_code 0 = .ok (.aload_n 0, 1) := by decide +kernel
theorem o_h277 : decode jdk_42_method_150_code 1 = .ok (.invokespecial 1, 3) := by decide +kernel
theorem o_h278 : decode jdk_42_method_150_code 4 = .ok (.aload_n 1, 1) := by decide +kernel
theorem o_h279 : decode jdk_42_method_150_code 5 = .ok (.invokevirtual 552, 3) := by decide +kernel
theorem o_h280 : parseMethodDescriptor "()[B" = some ⟨[], some (.array .byte)⟩ := by decide +kernel
theorem o_h281 : decode jdk_42_method_150_code 8 = .ok (.astore_n 3, 1) := by decide +kernel
theorem o_h282 : decode jdk_42_method_150_code 9 = .ok (.aload_n 1, 1) := by decide +kernel
theorem o_h283 : decode jdk_42_method_150_code 10 = .ok (.invokevirtual 549, 3) := by decide +kernel
theorem o_h284 : decode jdk_42_method_150_code 13 = .ok (.istore 4, 2) := by decide +kernel
theorem o_h285 : decode jdk_42_method_150_code 15 = .ok (.aload_n 1, 1) := by decide +kernel
theorem o_h286 : decode jdk_42_method_150_code 16 = .ok (.invokevirtual 1047, 3) := by decide +kernel
theorem o_h287 : parseMethodDescriptor "()Z" = some ⟨[], some .boolean⟩ := by decide +kernel
theorem o_h288 : decode jdk_42_method_150_code 19 = .ok (.ifCond .eq 22, 3) := by decide +kernel
theorem o_h289 : decode jdk_42_method_150_code 22 = .ok (.aload_n 0, 1) := by decide +kernel
theorem o_h290 : decode jdk_42_method_150_code 23 = .ok (.iconst 0, 1) := by decide +kernel
theorem o_h291 : decode jdk_42_method_150_code 24 = .ok (.putfield 15, 3) := by decide +kernel
theorem o_h292 : decode jdk_42_method_150_code 27 = .ok (.aload_n 0, 1) := by decide +kernel
theorem o_h293 : decode jdk_42_method_150_code 28 = .ok (.aload_n 3, 1) := by decide +kernel
theorem o_h294 : decode jdk_42_method_150_code 29 = .ok (.iconst 0, 1) := by decide +kernel
theorem o_h295 : decode jdk_42_method_150_code 30 = .ok (.iload 4, 2) := by decide +kernel
theorem o_h296 : decode jdk_42_method_150_code 32 = .ok (.invokestatic 54, 3) := by decide +kernel
theorem o_h297 : decode jdk_42_method_150_code 35 = .ok (.putfield 9, 3) := by decide +kernel
theorem o_h298 : decode jdk_42_method_150_code 38 = .ok (.goto 59, 3) := by decide +kernel
theorem o_h299 : decode jdk_42_method_150_code 97 = .ok (.return_, 1) := by decide +kernel
theorem rmIa (l : Launch) (Z : State) (a0 : Array Value) (hw : ∀ d ∈ tables_1, d.before a0 Z = true) (ws : List Jvm.Cond) (a : Addr) (b : Addr) (t : Addr) (kt : ClassId) (cap : Nat) (ds : List Value) (n : Nat) (h0 : Heap) (n0 : Nat) (Z0 : n0 ≤ h0.size) (f0_ : Exa Z h0 a oS) (f1_ : Fld Z h0 a oS "value" "[B" .null) (f2_ : Fld Z h0 a oS "coder" "B" (.int (0 : Int32))) (f3_ : n0 ≤ a) (f4_ : Exa Z h0 b oB) (f5_ : Fld Z h0 b oA "value" "[B" (.ref t)) (f6_ : Fld Z h0 b oA "coder" "B" (.int (0 : Int32))) (f7_ : Fld Z h0 b oA "count" "I" (.int (Int32.ofNat n))) (f8_ : Arv Z h0 t kt .byte (Int32.ofNat cap) ds (.int (0 : Int32))) (f9_ : Exa Z h0 t "[B") (hds : ds.length = cap) (hn : n ≤ cap) (hcap : cap ≤ 160) (f13_ : b ≠ a) (f14_ : t ≠ a) (f15_ : Old Z n0 h0) (ci : Int32) (sC : Sta Z Z.heap oS "COMPACT_STRINGS" "Z" (.int ci)) (hc : ¬ ci = 0) :
    o_Met l (⟨oS, "<init>", "(Ljava/lang/AbstractStringBuilder;Ljava/lang/Void;)V"⟩ : MethodName) jdk_42_method_150_code 5 none ws (rO 3 1 160 49) #[.ref a, .ref b, .null] Z h0 (Q_rmIa Z a b t kt cap ds n h0 n0) := by
 refine MetFree.of_bodySF (plainFor_of_name o_h110) hisR ?_
 intro p e s m args below meth c s₁ Bd hml0 hP hK
 obtain ⟨rfl, hZ, hh⟩ := hP
 have hx := Bd.exec
 have hby := Bd.bytes
 have hml : c.maxLocals = 5 := hml0
 have hown : s.vm.findClass oS = some m.cls := findClass_of_methodNamed Bd.named
 have hnm := (name_of_methodNamed Bd.named Bd.method).1
 have X0 : Stand p l e (rO 3 1 160 49) s m #[.ref a, .ref b, .null] below meth c s₁ [] 0 0 := Stand.of_body Bd
 have e0 : s₁.heap = h0 := by rw [← hh, Bd.state]; rfl
 have N0 := Fr.nil n0
 obtain ⟨B_, hB_⟩ : ∃ z, z = s₁.setTop (entryFrame m #[.ref a, .ref b, .null] 5) := ⟨_, rfl⟩
 have k0 : o_K p e below (s₁.setTop (mkF m 0 #[.val (.ref a), .val (.ref b), .val .null, .unset, .unset] [])) B_ := by rw [hB_]; exact fun t k => castTop (by clear k; first | (simp [entryFrame, mkF, argsToLocals, Value.category, maxLocals]; done) | rfl) k
 have K0 : Keep h0 h0 [a] := Keep.refl _ _
 have k1 : o_J p e below s₁ m 1 #[vR a, vR b, .val .null, .unset, .unset] [.ref a] B_ := fun t_ hh => k0 t_ (by
  refine XS.aloadN X0.here hx rfl (hb hby o_h276) rfl rfl ?_
  exact hh)
 obtain ⟨T21, X22, e23, st24⟩ := initO X0 hx hZ hown (wT hw 15 rfl) (wT hw 16 rfl) (wT hw 17 rfl) e0 (g := (mkF m 1 #[vR a, vR b, .val .null, .unset, .unset] [.ref a])) rfl (by rw [hml]; rfl) rfl (hb hby o_h277) (by decide) (W := 0) (o_w0 rfl) (by decide)
 have k2 : o_J p e below T21 m 4 #[vR a, vR b, .val .null, .unset, .unset] [] B_ := fun t_ hh => k1 t_ (st24 t_ hh)
 clear k1 st24
 have k3 : o_J p e below T21 m 5 #[vR a, vR b, .val .null, .unset, .unset] [.ref b] B_ := fun t_ hh => k2 t_ (by
  refine XS.aloadN X22.here hx rfl (hb hby o_h278) rfl rfl ?_
  exact hh)
 clear k2
 obtain ⟨cq36, kq37, qa38, qb39, qc40⟩ := isOf hZ e23 f4_
 obtain ⟨_, _, ⟨T25, L26, k_27, n_28⟩, -, X29, ⟨Lc30, hQ31, l_32, y_33, z_34⟩, st35⟩ := X22.virtualBack hx (y := ⟨oA, "getValue", "()[B"⟩) (z := ⟨oA, "getValue", "()[B"⟩) hown (mvT hZ (wT hw 150 rfl)) (mvT hZ (wT hw 151 rfl)) (notFace_of_selects (args := #[]) (mvT hZ (wT hw 153 rfl))) (mvT hZ (wT hw 153 rfl)) (mvT hZ (wT hw 152 rfl)) (by decide) (backOf (W := 0) (rmGv l Z a0 hw [] b t h0 n0 Z0 f5_ ) hZ (wT hw 154 rfl) (wT hw 51 rfl) (by decide) (by decide)) qa38 qc40 (g := (mkF m 5 #[vR a, vR b, .val .null, .unset, .unset] [.ref b])) rfl (by rw [hml]; rfl) (Steps.refl _) (argsL := []) (rest := []) (lenOf o_h280 rfl) rfl (o_w0 rfl) (hb hby o_h279) (fun _ _ => ⟨rfl, e23, o_l rfl, o_l rfl⟩)
 dsimp only [Pt.U, Pt.locs, Pt.cells, Pt.slots] at X29 l_32 y_33 z_34 st35 hQ31
 subst l_32 y_33 z_34
 obtain ⟨rfl, N41, e42⟩ := hQ31
 have N43 := Fr.app N0 N41
 have k4 : o_J p e below T25 m 8 #[vR a, vR b, .val .null, .unset, .unset] [.ref t] B_ := fun t_ hh => k3 t_ (st35.trans hh)
 clear k3 st35 X22 e23
 have k5 : o_J p e below T25 m 10 #[vR a, vR b, .val .null, vR t, .unset] [.ref b] B_ := fun t_ hh => k4 t_ (by
  refine XS.astoreN X29.here hx rfl (hb hby o_h281) rfl rfl (l' := #[vR a, vR b, .val .null, vR t, .unset]) rfl ?_
  refine XS.aloadN X29.here hx rfl (hb hby o_h282) rfl rfl ?_
  exact hh)
 clear k4
 obtain ⟨cq55, kq56, qa57, qb58, qc59⟩ := isOf hZ e42 f4_
 obtain ⟨_, _, ⟨T44, L45, k_46, n_47⟩, -, X48, ⟨Lc49, hQ50, l_51, y_52, z_53⟩, st54⟩ := X29.virtualBack hx (y := ⟨oA, "length", "()I"⟩) (z := ⟨oB, "length", "()I"⟩) hown (mvT hZ (wT hw 155 rfl)) (mvT hZ (wT hw 156 rfl)) (o_notFace (args := #[]) (mvT hZ (wT hw 92 rfl)) rfl) (mvT hZ (wT hw 158 rfl)) (mvT hZ (wT hw 159 rfl)) (by decide) (backOf (W := 0) (rmSl l Z a0 hw [] b n h0 n0 Z0 f4_ f7_ ) hZ (wT hw 160 rfl) (wT hw 43 rfl) (by decide) (by decide)) qa57 qc59 (g := (mkF m 10 #[vR a, vR b, .val .null, vR t, .unset] [.ref b])) rfl (by rw [hml]; rfl) (Steps.refl _) (argsL := []) (rest := []) (lenOf o_h167 rfl) rfl (o_w0 rfl) (hb hby o_h283) (fun _ _ => ⟨rfl, e42, o_l rfl, o_l rfl⟩)
 dsimp only [Pt.U, Pt.locs, Pt.cells, Pt.slots] at X48 l_51 y_52 z_53 st54 hQ50
 subst l_51 y_52 z_53
 obtain ⟨rfl, N60, e61⟩ := hQ50
 have N62 := Fr.app N43 N60
 have k6 : o_J p e below T44 m 13 #[vR a, vR b, .val .null, vR t, .unset] [(.int (Int32.ofNat n))] B_ := fun t_ hh => k5 t_ (st54.trans hh)
 clear k5 st54 X29 e42
 have k7 : o_J p e below T44 m 16 #[vR a, vR b, .val .null, vR t, vI (Int32.ofNat n)] [.ref b] B_ := fun t_ hh => k6 t_ (by
  refine XS.istore X48.here hx rfl (hb hby o_h284) rfl (l' := #[vR a, vR b, .val .null, vR t, vI (Int32.ofNat n)]) rfl ?_
  refine XS.aloadN X48.here hx rfl (hb hby o_h285) rfl rfl ?_
  exact hh)
 clear k6
 obtain ⟨cq74, kq75, qa76, qb77, qc78⟩ := isOf hZ e61 f4_
 obtain ⟨_, _, ⟨T63, L64, k_65, n_66⟩, -, X67, ⟨Lc68, hQ69, l_70, y_71, z_72⟩, st73⟩ := X48.virtualBack hx (y := ⟨oA, "isLatin1", "()Z"⟩) (z := ⟨oA, "isLatin1", "()Z"⟩) hown (mvT hZ (wT hw 163 rfl)) (mvT hZ (wT hw 164 rfl)) (notFace_of_selects (args := #[]) (mvT hZ (wT hw 166 rfl))) (mvT hZ (wT hw 166 rfl)) (mvT hZ (wT hw 165 rfl)) (by decide) (backOf (W := 0) (rmIl l Z a0 hw [] b h0 n0 Z0 f6_ f15_ ci sC hc) hZ (wT hw 167 rfl) (wT hw 51 rfl) (by decide) (by decide)) qa76 qc78 (g := (mkF m 16 #[vR a, vR b, .val .null, vR t, vI (Int32.ofNat n)] [.ref b])) rfl (by rw [hml]; rfl) (Steps.refl _) (argsL := []) (rest := []) (lenOf o_h287 rfl) rfl (o_w0 rfl) (hb hby o_h286) (fun _ _ => ⟨rfl, e61, o_l rfl, o_l rfl⟩)
 dsimp only [Pt.U, Pt.locs, Pt.cells, Pt.slots] at X67 l_70 y_71 z_72 st73 hQ69
 subst l_70 y_71 z_72
 obtain ⟨rfl, N79, e80⟩ := hQ69
 have N81 := Fr.app N62 N79
 have k8 : o_J p e below T63 m 19 #[vR a, vR b, .val .null, vR t, vI (Int32.ofNat n)] [(.int 1)] B_ := fun t_ hh => k7 t_ (st73.trans hh)
 clear k7 st73 X48 e61
 have k9 : o_J p e below T63 m 24 #[vR a, vR b, .val .null, vR t, vI (Int32.ofNat n)] [(.int 0), .ref a] B_ := fun t_ hh => k8 t_ (by
  refine XS.ifNo X67.here hx rfl (hb hby o_h288) rfl (by decide) ?_
  refine XS.aloadN X67.here hx rfl (hb hby o_h289) rfl rfl ?_
  refine XS.iconst X67.here hx rfl (hb hby o_h290) ?_
  exact hh)
 clear k8
 obtain ⟨T82, h83, X84, e85, W86, st87⟩ := putF X67 hx hZ hown (host := "") (Or.inl (wT hw 25 rfl)) Via.refl e80 f2_ f0_ (Or.inr ⟨(wT hw 21 rfl), rfl, hnm⟩) (wT hw 5 rfl) (ty := .byte) (by decide) rfl rfl (g := (mkF m 24 #[vR a, vR b, .val .null, vR t, vI (Int32.ofNat n)] [(.int 0), .ref a])) rfl rfl (hb hby o_h291)
 have N88 := Fr.snoc X84 N81 f3_
 have F89 := Exa.wr W86 f0_
 have F90 := Fld.other W86 f1_ (Or.inr (slot_ne (Or.inr (wT hw 20 rfl)) (Or.inr (wT hw 21 rfl)) (by decide) (t := (.array .byte)) (t' := .byte) (by decide) (by decide)))
 have F91 : Fld Z h83 a oS "coder" "B" (.int 0) := Fld.same W86 f2_
 have F92 := Exa.wr W86 f4_
 have F93 := Fld.other W86 f5_ (Or.inl f13_)
 have F94 := Fld.other W86 f6_ (Or.inl f13_)
 have F95 := Fld.other W86 f7_ (Or.inl f13_)
 have F96 := f8_.other W86 f14_
 have F97 := Exa.wr W86 f9_
 have Z99 : n0 ≤ h83.size := W86.size ▸ Z0
 have O100 := f15_.wr W86 f3_
 have P101 : Keep h0 h83 [a] := K0.wr W86 (Or.inl (List.mem_of_getElem? (i := 0) rfl))
 have k10 : o_J p e below T82 m 27 #[vR a, vR b, .val .null, vR t, vI (Int32.ofNat n)] [] B_ := fun t_ hh => k9 t_ (st87 t_ hh)
 clear k9 st87 X67 e80
 have k11 : o_J p e below T82 m 32 #[vR a, vR b, .val .null, vR t, vI (Int32.ofNat n)] [(.int (Int32.ofNat n)), (.int 0), .ref t, .ref a] B_ := fun t_ hh => k10 t_ (by
  refine XS.aloadN X84.here hx rfl (hb hby o_h292) rfl rfl ?_
  refine XS.aloadN X84.here hx rfl (hb hby o_h293) rfl rfl ?_
  refine XS.iconst X84.here hx rfl (hb hby o_h294) ?_
  refine XS.iload X84.here hx rfl (hb hby o_h295) rfl ?_
  exact hh)
 clear k10
 by_cases hgr : n = cap
 ·
  obtain ⟨_, _, ⟨T102, L103, k_104, n_105⟩, -, X106, ⟨Lc107, hQ108, l_109, y_110, z_111⟩, st112⟩ := Jvm.LawKit.callS X84 hx (y := ⟨"java/util/Arrays", "copyOfRange", "([BII)[B"⟩) hown (mvT hZ (wT hw 168 rfl)) (mvT hZ (wT hw 169 rfl)) (mvT hZ (wT hw 111 rfl)) (mvT hZ (wT hw 170 rfl)) (by decide) (backOf (W := 1) (rmCr2 l Z a0 hw [] t kt cap ds n h83 n0 Z99 F96 F97 hds hgr hcap ) hZ (wT hw 170 rfl) (wT hw 111 rfl) (by decide) (by decide)) (g := (mkF m 32 #[vR a, vR b, .val .null, vR t, vI (Int32.ofNat n)] [(.int (Int32.ofNat n)), (.int 0), .ref t, .ref a])) rfl (by rw [hml]; rfl) (argsL := [.ref t, (.int 0), (.int (Int32.ofNat n))]) (rest := [.ref a]) (lenOf o_h270 rfl) rfl (o_w0 rfl) (hb hby o_h296) (fun _ _ => ⟨rfl, e85, o_l rfl, o_l rfl⟩)
  dsimp only [Pt.U, Pt.locs, Pt.cells, Pt.slots] at X106 l_109 y_110 z_111 st112 hQ108
  subst l_109 y_110 z_111
  obtain ⟨t2114, k2115, es116, rfl, N113, K121, F117, F118, F119, F120, -⟩ := hQ108
  have N122 := Fr.app N88 N113
  have H0123 : h0.size ≤ t2114 := Nat.le_trans P101.1 F120
  have F124 := F89.keep K121
  have F125 := F90.keep K121 nin0
  have F126 := F91.keep K121 nin0
  have F127 := F92.keep K121
  have F128 := F93.keep K121 nin0
  have F129 := F94.keep K121 nin0
  have F130 := F95.keep K121 nin0
  have F131 := F96.keep K121 nin0
  have F132 := F97.keep K121
  have Z133 : n0 ≤ T102.heap.size := Nat.le_trans Z99 K121.1
  have O134 := O100.keep K121 all0
  have P135 : Keep h0 T102.heap [a] := P101.trans K121 (fun _ q => nomatch q)
  have e136 : T102.heap = T102.heap := rfl
  have k12 : o_J p e below T102 m 35 #[vR a, vR b, .val .null, vR t, vI (Int32.ofNat n)] [.ref t2114, .ref a] B_ := fun t_ hh => k11 t_ (st112 t_ hh)
  clear k11 st112 X84 e85
  obtain ⟨T137, h138, X139, e140, W141, st142⟩ := putF X106 hx hZ hown (host := "") (Or.inl (wT hw 24 rfl)) Via.refl e136 F125 F124 (Or.inr ⟨(wT hw 20 rfl), rfl, hnm⟩) (wT hw 5 rfl) (ty := .array .byte) (by decide) rfl rfl (g := (mkF m 35 #[vR a, vR b, .val .null, vR t, vI (Int32.ofNat n)] [.ref t2114, .ref a])) rfl rfl (hb hby o_h297)
  have N143 := Fr.snoc X139 N122 f3_
  have F144 := Exa.wr W141 F124
  have F145 : Fld Z h138 a oS "value" "[B" (.ref t2114) := Fld.same W141 F125
  have F146 := Fld.other W141 F126 (Or.inr (slot_ne (Or.inr (wT hw 21 rfl)) (Or.inr (wT hw 20 rfl)) (by decide) (t := .byte) (t' := (.array .byte)) (by decide) (by decide)))
  have F147 := Exa.wr W141 F127
  have F148 := Fld.other W141 F128 (Or.inl f13_)
  have F149 := Fld.other W141 F129 (Or.inl f13_)
  have F150 := Fld.other W141 F130 (Or.inl f13_)
  have F151 := F131.other W141 f14_
  have F152 := Exa.wr W141 F132
  have ne155 : a ≠ t2114 := Nat.ne_of_lt (Nat.lt_of_lt_of_le F89.lt F120)
  have F154 := F117.other W141 (Ne.symm ne155)
  have Z156 : n0 ≤ h138.size := W141.size ▸ Z133
  have O157 := O134.wr W141 f3_
  have P158 : Keep h0 h138 [a] := P135.wr W141 (Or.inl (List.mem_of_getElem? (i := 0) rfl))
  have k13 : o_J p e below T137 m 38 #[vR a, vR b, .val .null, vR t, vI (Int32.ofNat n)] [] B_ := fun t_ hh => k12 t_ (st142 t_ hh)
  clear k12 st142 X106 e136
  have k14 : o_J p e below T137 m 97 #[vR a, vR b, .val .null, vR t, vI (Int32.ofNat n)] [] B_ := fun t_ hh => k13 t_ (by
   refine XS.goto X139.here hx rfl (pc0 := 38) (pc' := 97) rfl (hb hby o_h298) (by decide) (by decide) ?_
   exact hh)
  clear k13
  obtain ⟨fs, hr, hrun, hended, hW, hsame⟩ := X139.leave (v := none) (fun _ => rfl)
  refine ⟨_, _, (o_from hB_ (k14 _ (X139.returnOut hx Bd.returns (hb hby o_h299) hr))), hrun, hended, _, _, rfl, ?_, ⟨_, rfl⟩, hW, hsame.mono (o_l rfl) (o_l rfl)⟩
  show Q_rmIa Z a b t kt cap ds n h0 n0 _ T137.heap _
  rw [e140]
  exact ⟨t2114, k2115, es116, rfl, N143, P158, F144, F145, F146, F154, F118, F119, H0123, trivial⟩
 ·
  obtain ⟨_, _, ⟨T159, L160, k_161, n_162⟩, -, X163, ⟨Lc164, hQ165, l_166, y_167, z_168⟩, st169⟩ := Jvm.LawKit.callS X84 hx (y := ⟨"java/util/Arrays", "copyOfRange", "([BII)[B"⟩) hown (mvT hZ (wT hw 168 rfl)) (mvT hZ (wT hw 169 rfl)) (mvT hZ (wT hw 111 rfl)) (mvT hZ (wT hw 170 rfl)) (by decide) (backOf (W := 1) (rmCr1 l Z a0 hw [] t kt cap ds n h83 n0 Z99 F96 hds (Nat.lt_of_le_of_ne hn hgr) hcap ) hZ (wT hw 170 rfl) (wT hw 111 rfl) (by decide) (by decide)) (g := (mkF m 32 #[vR a, vR b, .val .null, vR t, vI (Int32.ofNat n)] [(.int (Int32.ofNat n)), (.int 0), .ref t, .ref a])) rfl (by rw [hml]; rfl) (argsL := [.ref t, (.int 0), (.int (Int32.ofNat n))]) (rest := [.ref a]) (lenOf o_h270 rfl) rfl (o_w0 rfl) (hb hby o_h296) (fun _ _ => ⟨rfl, e85, o_l rfl, o_l rfl⟩)
  dsimp only [Pt.U, Pt.locs, Pt.cells, Pt.slots] at X163 l_166 y_167 z_168 st169 hQ165
  subst l_166 y_167 z_168
  obtain ⟨t2171, k2172, es173, rfl, N170, K178, F174, F175, F176, F177, -⟩ := hQ165
  have N179 := Fr.app N88 N170
  have H0180 : h0.size ≤ t2171 := Nat.le_trans P101.1 F177
  have F181 := F89.keep K178
  have F182 := F90.keep K178 nin0
  have F183 := F91.keep K178 nin0
  have F184 := F92.keep K178
  have F185 := F93.keep K178 nin0
  have F186 := F94.keep K178 nin0
  have F187 := F95.keep K178 nin0
  have F188 := F96.keep K178 nin0
  have F189 := F97.keep K178
  have Z190 : n0 ≤ T159.heap.size := Nat.le_trans Z99 K178.1
  have O191 := O100.keep K178 all0
  have P192 : Keep h0 T159.heap [a] := P101.trans K178 (fun _ q => nomatch q)
  have e193 : T159.heap = T159.heap := rfl
  have k15 : o_J p e below T159 m 35 #[vR a, vR b, .val .null, vR t, vI (Int32.ofNat n)] [.ref t2171, .ref a] B_ := fun t_ hh => k11 t_ (st169 t_ hh)
  clear k11 st169 X84 e85
  obtain ⟨T194, h195, X196, e197, W198, st199⟩ := putF X163 hx hZ hown (host := "") (Or.inl (wT hw 24 rfl)) Via.refl e193 F182 F181 (Or.inr ⟨(wT hw 20 rfl), rfl, hnm⟩) (wT hw 5 rfl) (ty := .array .byte) (by decide) rfl rfl (g := (mkF m 35 #[vR a, vR b, .val .null, vR t, vI (Int32.ofNat n)] [.ref t2171, .ref a])) rfl rfl (hb hby o_h297)
  have N200 := Fr.snoc X196 N179 f3_
  have F201 := Exa.wr W198 F181
  have F202 : Fld Z h195 a oS "value" "[B" (.ref t2171) := Fld.same W198 F182
  have F203 := Fld.other W198 F183 (Or.inr (slot_ne (Or.inr (wT hw 21 rfl)) (Or.inr (wT hw 20 rfl)) (by decide) (t := .byte) (t' := (.array .byte)) (by decide) (by decide)))
  have F204 := Exa.wr W198 F184
  have F205 := Fld.other W198 F185 (Or.inl f13_)
  have F206 := Fld.other W198 F186 (Or.inl f13_)
  have F207 := Fld.other W198 F187 (Or.inl f13_)
  have F208 := F188.other W198 f14_
  have F209 := Exa.wr W198 F189
  have ne212 : a ≠ t2171 := Nat.ne_of_lt (Nat.lt_of_lt_of_le F89.lt F177)
  have F211 := F174.other W198 (Ne.symm ne212)
  have Z213 : n0 ≤ h195.size := W198.size ▸ Z190
  have O214 := O191.wr W198 f3_
  have P215 : Keep h0 h195 [a] := P192.wr W198 (Or.inl (List.mem_of_getElem? (i := 0) rfl))
  have k16 : o_J p e below T194 m 38 #[vR a, vR b, .val .null, vR t, vI (Int32.ofNat n)] [] B_ := fun t_ hh => k15 t_ (st199 t_ hh)
  clear k15 st199 X163 e193
  have k17 : o_J p e below T194 m 97 #[vR a, vR b, .val .null, vR t, vI (Int32.ofNat n)] [] B_ := fun t_ hh => k16 t_ (by
   refine XS.goto X196.here hx rfl (pc0 := 38) (pc' := 97) rfl (hb hby o_h298) (by decide) (by decide) ?_
   exact hh)
  clear k16
  obtain ⟨fs, hr, hrun, hended, hW, hsame⟩ := X196.leave (v := none) (fun _ => rfl)
  refine ⟨_, _, (o_from hB_ (k17 _ (X196.returnOut hx Bd.returns (hb hby o_h299) hr))), hrun, hended, _, _, rfl, ?_, ⟨_, rfl⟩, hW, hsame.mono (o_l rfl) (o_l rfl)⟩
  show Q_rmIa Z a b t kt cap ds n h0 n0 _ T194.heap _
  rw [e197]
  exact ⟨t2171, k2172, es173, rfl, N200, P215, F201, F202, F203, F211, F175, F176, H0180, trivial⟩
def Q_rmIs (Z : State) (a : Addr) (b : Addr) (t : Addr) (kt : ClassId) (cap : Nat) (ds : List Value) (n : Nat) (h0 : Heap) (n0 : Nat) (v : Option Value) (h : Heap) (L : List Loc) : Prop := ∃ t2 : Addr, ∃ k2 : ClassId, ∃ es : List Value, v = none ∧ Fr n0 L ∧ Keep h0 h [a] ∧ Exa Z h a oS ∧ Fld Z h a oS "value" "[B" (.ref t2) ∧ Fld Z h a oS "coder" "B" (.int (0 : Int32)) ∧ Arv Z h t2 k2 .byte (Int32.ofNat n) es (.int (0 : Int32)) ∧ es = ds.take n ∧ n0 ≤ t2 ∧ h0.size ≤ t2 ∧ True
theorem o_h300 : decode jdk_42_method_53_code 0 = .ok (.aload_n 0, 1) := by decide +kernel
theorem o_h301 : decode jdk_42_method_53_code 1 = .ok (.aload_n 1, 1) := by decide +kernel
theorem o_h302 : decode jdk_42_method_53_code 2 = .ok (.aconst_null, 1) := by decide +kernel
theorem o_h303 : decode jdk_42_method_53_code 3 = .ok (.invokespecial 489, 3) := by decide +kernel
theorem o_h304 : parseMethodDescriptor "(Ljava/lang/AbstractStringBuilder;Ljava/lang/Void;)V" = some ⟨[.object oA, .object "java/lang/Void"], none⟩ := by decide +kernel
theorem o_h305 : decode jdk_42_method_53_code 6 = .ok (.return_, 1) := by decide +kernel
theorem rmIs (l : Launch) (Z : State) (a0 : Array Value) (hw : ∀ d ∈ tables_1, d.before a0 Z = true) (ws : List Jvm.Cond) (a : Addr) (b : Addr) (t : Addr) (kt : ClassId) (cap : Nat) (ds : List Value) (n : Nat) (h0 : Heap) (n0 : Nat) (Z0 : n0 ≤ h0.size) (f0_ : Exa Z h0 a oS) (f1_ : Fld Z h0 a oS "value" "[B" .null) (f2_ : Fld Z h0 a oS "coder" "B" (.int (0 : Int32))) (f3_ : n0 ≤ a) (f4_ : Exa Z h0 b oB) (f5_ : Fld Z h0 b oA "value" "[B" (.ref t)) (f6_ : Fld Z h0 b oA "coder" "B" (.int (0 : Int32))) (f7_ : Fld Z h0 b oA "count" "I" (.int (Int32.ofNat n))) (f8_ : Arv Z h0 t kt .byte (Int32.ofNat cap) ds (.int (0 : Int32))) (f9_ : Exa Z h0 t "[B") (hds : ds.length = cap) (hn : n ≤ cap) (hcap : cap ≤ 160) (f13_ : b ≠ a) (f14_ : t ≠ a) (f15_ : Old Z n0 h0) (ci : Int32) (sC : Sta Z Z.heap oS "COMPACT_STRINGS" "Z" (.int ci)) (hc : ¬ ci = 0) :
    o_Met l (⟨oS, "<init>", "(Ljava/lang/StringBuilder;)V"⟩ : MethodName) jdk_42_method_53_code 2 none ws (rO 4 1 160 65) #[.ref a, .ref b] Z h0 (Q_rmIs Z a b t kt cap ds n h0 n0) := by
 refine MetFree.of_bodySF (plainFor_of_name o_h110) hisR ?_
 intro p e s m args below meth c s₁ Bd hml0 hP hK
 obtain ⟨rfl, hZ, hh⟩ := hP
 have hx := Bd.exec
 have hby := Bd.bytes
 have hml : c.maxLocals = 2 := hml0
 have hown : s.vm.findClass oS = some m.cls := findClass_of_methodNamed Bd.named
 have hnm := (name_of_methodNamed Bd.named Bd.method).1
 have X0 : Stand p l e (rO 4 1 160 65) s m #[.ref a, .ref b] below meth c s₁ [] 0 0 := Stand.of_body Bd
 have e0 : s₁.heap = h0 := by rw [← hh, Bd.state]; rfl
 have N0 := Fr.nil n0
 obtain ⟨B_, hB_⟩ : ∃ z, z = s₁.setTop (entryFrame m #[.ref a, .ref b] 2) := ⟨_, rfl⟩
 have k0 : o_K p e below (s₁.setTop (mkF m 0 #[.val (.ref a), .val (.ref b)] [])) B_ := by rw [hB_]; exact fun t k => castTop (by clear k; first | (simp [entryFrame, mkF, argsToLocals, Value.category, maxLocals]; done) | rfl) k
 have K0 : Keep h0 h0 [a] := Keep.refl _ _
 have k1 : o_J p e below s₁ m 3 #[vR a, vR b] [.null, .ref b, .ref a] B_ := fun t_ hh => k0 t_ (by
  refine XS.aloadN X0.here hx rfl (hb hby o_h300) rfl rfl ?_
  refine XS.aloadN X0.here hx rfl (hb hby o_h301) rfl rfl ?_
  refine XS.aconstNull X0.here hx rfl (hb hby o_h302) ?_
  exact hh)
 obtain ⟨_, _, ⟨T21, L22, k_23, n_24⟩, -, X25, ⟨Lc26, hQ27, l_28, y_29, z_30⟩, st31⟩ := X0.specialBack hx (y := ⟨oS, "<init>", "(Ljava/lang/AbstractStringBuilder;Ljava/lang/Void;)V"⟩) rfl hown (mvT hZ (wT hw 147 rfl)) (mvT hZ (wT hw 148 rfl)) (mvT hZ (wT hw 149 rfl)) (by decide) (backOf (W := 0) (rmIa l Z a0 hw [] a b t kt cap ds n h0 n0 Z0 f0_ f1_ f2_ f3_ f4_ f5_ f6_ f7_ f8_ f9_ hds hn hcap f13_ f14_ f15_ ci sC hc) hZ (wT hw 149 rfl) (wT hw 6 rfl) (by decide) (by decide)) (g := (mkF m 3 #[vR a, vR b] [.null, .ref b, .ref a])) rfl (by rw [hml]; rfl) (Steps.refl _) (a := a) (argsL := [.ref b, .null]) (rest := []) (lenOf o_h304 rfl) rfl (o_w0 rfl) (hb hby o_h303) (fun _ _ => ⟨rfl, e0, o_l rfl, o_l rfl⟩)
 dsimp only [Pt.U, Pt.locs, Pt.cells, Pt.slots] at X25 l_28 y_29 z_30 st31 hQ27
 subst l_28 y_29 z_30
 obtain ⟨t233, k234, es35, rfl, N32, K43, F36, F37, F38, F39, F40, F41, F42, -⟩ := hQ27
 have N44 := Fr.app N0 N32
 have H045 : h0.size ≤ t233 := Nat.le_trans K0.1 F42
 have F46 := f0_.keep K43
 have F47 := f4_.keep K43
 have F48 := f5_.keep K43 (ninS f13_ nin0)
 have F49 := f6_.keep K43 (ninS f13_ nin0)
 have F50 := f7_.keep K43 (ninS f13_ nin0)
 have F51 := f8_.keep K43 (ninS f14_ nin0)
 have F52 := f9_.keep K43
 have Z53 : n0 ≤ T21.heap.size := Nat.le_trans Z0 K43.1
 have O54 := f15_.keep K43 (allS f3_ all0)
 have P55 : Keep h0 T21.heap [a] := K0.trans K43 (allS (P := fun x => x ∈ [a] ∨ h0.size ≤ x) (Or.inl (List.mem_of_getElem? (i := 0) rfl)) all0)
 have e56 : T21.heap = T21.heap := rfl
 have k2 : o_J p e below T21 m 6 #[vR a, vR b] [] B_ := fun t_ hh => k1 t_ (st31.trans hh)
 clear k1 st31
 obtain ⟨fs, hr, hrun, hended, hW, hsame⟩ := X25.leave (v := none) (fun _ => rfl)
 refine ⟨_, _, (o_from hB_ (k2 _ (X25.returnOut hx Bd.returns (hb hby o_h305) hr))), hrun, hended, _, _, rfl, ?_, ⟨_, rfl⟩, hW, hsame.mono (o_l rfl) (o_l rfl)⟩
 show Q_rmIs Z a b t kt cap ds n h0 n0 _ T21.heap _
 rw [e56]
 exact ⟨t233, k234, es35, rfl, N44, P55, F36, F37, F38, F39, F40, F41, H045, trivial⟩
def Q_rmTs (Z : State) (b : Addr) (t : Addr) (kt : ClassId) (cap : Nat) (ds : List Value) (us : List Int32) (h0 : Heap) (n0 : Nat) (v : Option Value) (h : Heap) (L : List Loc) : Prop := ∃ r : Addr, ∃ t2 : Addr, ∃ k2 : ClassId, v = some (.ref r) ∧ Fr n0 L ∧ Keep h0 h [] ∧ Exa Z h r oS ∧ Fld Z h r oS "value" "[B" (.ref t2) ∧ Fld Z h r oS "coder" "B" (.int (0 : Int32)) ∧ Arv Z h t2 k2 .byte (Int32.ofNat (List.length us)) (o_by us) (.int (0 : Int32)) ∧ n0 ≤ r ∧ n0 ≤ t2 ∧ h0.size ≤ r ∧ h0.size ≤ t2 ∧ True
theorem o_h306 : decode jdk_67_method_42_code 0 = .ok (.new 18, 3) := by decide +kernel
theorem o_h307 : decode jdk_67_method_42_code 3 = .ok (.dup, 1) := by decide +kernel
theorem o_h308 : decode jdk_67_method_42_code 4 = .ok (.aload_n 0, 1) := by decide +kernel
theorem o_h309 : decode jdk_67_method_42_code 5 = .ok (.invokespecial 137, 3) := by decide +kernel
theorem o_h310 : parseMethodDescriptor "(Ljava/lang/StringBuilder;)V" = some ⟨[.object oB], none⟩ := by decide +kernel
theorem o_h311 : decode jdk_67_method_42_code 8 = .ok (.areturn, 1) := by decide +kernel
theorem rmTs (l : Launch) (Z : State) (a0 : Array Value) (hw : ∀ d ∈ tables_1, d.before a0 Z = true) (ws : List Jvm.Cond) (b : Addr) (t : Addr) (kt : ClassId) (cap : Nat) (ds : List Value) (us : List Int32) (h0 : Heap) (n0 : Nat) (Z0 : n0 ≤ h0.size) (f0_ : Exa Z h0 b oB) (f1_ : Fld Z h0 b oA "value" "[B" (.ref t)) (f2_ : Fld Z h0 b oA "coder" "B" (.int (0 : Int32))) (f3_ : Fld Z h0 b oA "count" "I" (.int (Int32.ofNat (List.length us)))) (f4_ : Arv Z h0 t kt .byte (Int32.ofNat cap) ds (.int (0 : Int32))) (f5_ : Exa Z h0 t "[B") (hdc : ds.length = cap ∧ ds.take (List.length us) = o_by us) (hn : List.length us ≤ cap) (hcap : cap ≤ 160) (f9_ : Old Z n0 h0) (ci : Int32) (sC : Sta Z Z.heap oS "COMPACT_STRINGS" "Z" (.int ci)) (hc : ¬ ci = 0) :
    o_Met l (⟨oB, "toString", "()Ljava/lang/String;"⟩ : MethodName) jdk_67_method_42_code 1 (some (.object oS)) ws (rO 5 2 164 79) #[.ref b] Z h0 (Q_rmTs Z b t kt cap ds us h0 n0) := by
 refine MetFree.of_bodySF (plainFor_of_name o_h190) hisR ?_
 intro p e s m args below meth c s₁ Bd hml0 hP hK
 obtain ⟨rfl, hZ, hh⟩ := hP
 have hx := Bd.exec
 have hby := Bd.bytes
 have hml : c.maxLocals = 1 := hml0
 have hown : s.vm.findClass oB = some m.cls := findClass_of_methodNamed Bd.named
 have hnm := (name_of_methodNamed Bd.named Bd.method).1
 have X0 : Stand p l e (rO 5 2 164 79) s m #[.ref b] below meth c s₁ [] 0 0 := Stand.of_body Bd
 have e0 : s₁.heap = h0 := by rw [← hh, Bd.state]; rfl
 have N0 := Fr.nil n0
 obtain ⟨B_, hB_⟩ : ∃ z, z = s₁.setTop (entryFrame m #[.ref b] 1) := ⟨_, rfl⟩
 have k0 : o_K p e below (s₁.setTop (mkF m 0 #[.val (.ref b)] [])) B_ := by rw [hB_]; exact fun t k => castTop (by clear k; first | (simp [entryFrame, mkF, argsToLocals, Value.category, maxLocals]; done) | rfl) k
 have K0 : Keep h0 h0 [] := Keep.refl _ _
 obtain ⟨T21, h22, X23, e24, E25, A26, D27, U29, st28⟩ := newO X0 hx hZ hown (wT hw 143 rfl) (wT hw 5 rfl) (wT hw 6 rfl) e0 (g := (mkF m 0 #[vR b] [])) rfl (hb hby o_h306) (by decide) (by decide)
 obtain ⟨a30, g31⟩ : ∃ z, z = h0.size := ⟨_, rfl⟩
 rw [← g31] at A26 D27 U29 st28
 have H032 : h0.size ≤ a30 := Nat.le_trans K0.1 (Nat.le_of_eq g31.symm)
 have G33 : n0 ≤ a30 := Nat.le_trans Z0 (Nat.le_of_eq g31.symm)
 have F34 := Exa.ext (h' := h22) E25 f0_
 have F35 := Fld.ext (h' := h22) E25 f1_
 have F36 := Fld.ext (h' := h22) E25 f2_
 have F37 := Fld.ext (h' := h22) E25 f3_
 have F38 := f4_.ext E25
 have F39 := Exa.ext (h' := h22) E25 f5_
 have Z40 : n0 ≤ h22.size := Nat.le_trans Z0 E25.1
 have O41 := f9_.ext E25
 have P42 : Keep h0 h22 [] := K0.ext E25
 have F43 : Fld Z h22 a30 oS "value" "[B" .null := D27 (Or.inr (wT hw 20 rfl)) (ty := .array .byte) (by decide)
 have F44 : Fld Z h22 a30 oS "coder" "B" (.int 0) := D27 (Or.inr (wT hw 21 rfl)) (ty := .byte) (by decide)
 have k1 : o_J p e below T21 m 3 #[vR b] [.ref a30] B_ := fun t_ hh => k0 t_ (st28 t_ hh)
 clear st28
 have k2 : o_J p e below T21 m 5 #[vR b] [.ref b, .ref a30, .ref a30] B_ := fun t_ hh => k1 t_ (by
  refine XS.dup X23.here hx rfl (hb hby o_h307) rfl rfl ?_
  refine XS.aloadN X23.here hx rfl (hb hby o_h308) rfl rfl ?_
  exact hh)
 clear k1
 have ne56 : b ≠ a30 := by rw [g31]; exact Nat.ne_of_lt f0_.lt
 have ne57 : t ≠ a30 := by rw [g31]; exact Nat.ne_of_lt f4_.lt
 obtain ⟨_, _, ⟨T45, L46, k_47, n_48⟩, -, X49, ⟨Lc50, hQ51, l_52, y_53, z_54⟩, st55⟩ := X23.specialBack hx (y := ⟨oS, "<init>", "(Ljava/lang/StringBuilder;)V"⟩) rfl hown (mvT hZ (wT hw 144 rfl)) (mvT hZ (wT hw 145 rfl)) (mvT hZ (wT hw 146 rfl)) (by decide) (backOf (W := 1) (rmIs l Z a0 hw [] a30 b t kt cap ds (List.length us) h22 n0 Z40 A26 F43 F44 G33 F34 F35 F36 F37 F38 F39 hdc.1 hn hcap ne56 ne57 O41 ci sC hc) hZ (wT hw 146 rfl) (wT hw 6 rfl) (by decide) (by decide)) (g := (mkF m 5 #[vR b] [.ref b, .ref a30, .ref a30])) rfl (by rw [hml]; rfl) (Steps.refl _) (a := a30) (argsL := [.ref b]) (rest := [.ref a30]) (lenOf o_h310 rfl) rfl (o_w0 rfl) (hb hby o_h309) (fun _ _ => ⟨rfl, e24, o_l rfl, o_l rfl⟩)
 dsimp only [Pt.U, Pt.locs, Pt.cells, Pt.slots] at X49 l_52 y_53 z_54 st55 hQ51
 subst l_52 y_53 z_54
 obtain ⟨t259, k260, es61, rfl, N58, K69, F62, F63, F64, F65, F66, F67, F68, -⟩ := hQ51
 have N70 := Fr.app N0 N58
 have H071 : h0.size ≤ t259 := Nat.le_trans P42.1 F68
 have F72 := F34.keep K69
 have F73 := F35.keep K69 (ninS ne56 nin0)
 have F74 := F36.keep K69 (ninS ne56 nin0)
 have F75 := F37.keep K69 (ninS ne56 nin0)
 have F76 := F38.keep K69 (ninS ne57 nin0)
 have F77 := F39.keep K69
 have F78 := A26.keep K69
 have Z79 : n0 ≤ T45.heap.size := Nat.le_trans Z40 K69.1
 have O80 := O41.keep K69 (allS G33 all0)
 have P81 : Keep h0 T45.heap [] := P42.trans K69 (allS (P := fun x => x ∈ [] ∨ h0.size ≤ x) (Or.inr H032) all0)
 have e82 : T45.heap = T45.heap := rfl
 have k3 : o_J p e below T45 m 8 #[vR b] [.ref a30] B_ := fun t_ hh => k2 t_ (st55.trans hh)
 clear k2 st55 X23 e24
 have F83 : Arv Z T45.heap t259 k260 .byte (Int32.ofNat (List.length us)) (o_by us) (.int 0) := by rw [← hdc.2, ← F66]; exact F65
 obtain ⟨fs, hr, hrun, hended, hW, hsame⟩ := X49.leave (v := some (.ref a30)) (fun h => by rw [Bd.returns] at h; cases h)
 refine ⟨_, _, (o_from hB_ (k3 _ (retOut X49 hx (t := .object oS) Bd.returns rfl (Or.inr (Or.inr (Or.inr (Or.inr ⟨rfl, rfl, rfl⟩)))) (hb hby o_h311) hr))), hrun, hended, _, _, rfl, ?_, ⟨_, rfl⟩, hW, hsame.mono (o_l rfl) (o_l rfl)⟩
 show Q_rmTs Z b t kt cap ds us h0 n0 _ T45.heap _
 rw [e82]
 exact ⟨a30, t259, k260, rfl, N70, P81, F62, F63, F64, F83, G33, F67, H032, H071, trivial⟩
def o_lit1 : List Int32 := [84, 104, 101, 32, 97, 103, 103, 114, 101, 103, 97, 116, 101, 32, 111, 102, 32, 116, 121, 112, 101, 32]
theorem o_lit1_len : o_lit1.length = 22 := rfl
theorem o_lit1_b8 : ∀ c ∈ o_lit1, o_b8 c := (by decide +kernel : ∀ c ∈ o_lit1, ¬ c < 0 ∧ ¬ (255 : Int32) < c)
theorem o_lit1_by : o_by o_lit1 = [.int (84 : Int32), .int (104 : Int32), .int (101 : Int32), .int (32 : Int32), .int (97 : Int32), .int (103 : Int32), .int (103 : Int32), .int (114 : Int32), .int (101 : Int32), .int (103 : Int32), .int (97 : Int32), .int (116 : Int32), .int (101 : Int32), .int (32 : Int32), .int (111 : Int32), .int (102 : Int32), .int (32 : Int32), .int (116 : Int32), .int (121 : Int32), .int (112 : Int32), .int (101 : Int32), .int (32 : Int32)] := by first | decide +kernel | rfl
theorem o_lit1_arv {Z : State} {h : Heap} {b : Addr} {kb : ClassId} (F : Arv Z h b kb .byte (22 : Int32) [.int (84 : Int32), .int (104 : Int32), .int (101 : Int32), .int (32 : Int32), .int (97 : Int32), .int (103 : Int32), .int (103 : Int32), .int (114 : Int32), .int (101 : Int32), .int (103 : Int32), .int (97 : Int32), .int (116 : Int32), .int (101 : Int32), .int (32 : Int32), .int (111 : Int32), .int (102 : Int32), .int (32 : Int32), .int (116 : Int32), .int (121 : Int32), .int (112 : Int32), .int (101 : Int32), .int (32 : Int32)] (.int 0)) : Arv Z h b kb .byte (Int32.ofNat (List.length o_lit1)) (o_by o_lit1) (.int (0 : Int32)) := by rw [o_lit1_by]; exact F
def o_lit2 : List Int32 := [32, 119, 105, 116, 104, 32, 105, 100, 32]
theorem o_lit2_len : o_lit2.length = 9 := rfl
theorem o_lit2_b8 : ∀ c ∈ o_lit2, o_b8 c := (by decide +kernel : ∀ c ∈ o_lit2, ¬ c < 0 ∧ ¬ (255 : Int32) < c)
theorem o_lit2_by : o_by o_lit2 = [.int (32 : Int32), .int (119 : Int32), .int (105 : Int32), .int (116 : Int32), .int (104 : Int32), .int (32 : Int32), .int (105 : Int32), .int (100 : Int32), .int (32 : Int32)] := by first | decide +kernel | rfl
theorem o_lit2_arv {Z : State} {h : Heap} {b : Addr} {kb : ClassId} (F : Arv Z h b kb .byte (9 : Int32) [.int (32 : Int32), .int (119 : Int32), .int (105 : Int32), .int (116 : Int32), .int (104 : Int32), .int (32 : Int32), .int (105 : Int32), .int (100 : Int32), .int (32 : Int32)] (.int 0)) : Arv Z h b kb .byte (Int32.ofNat (List.length o_lit2)) (o_by o_lit2) (.int (0 : Int32)) := by rw [o_lit2_by]; exact F
def o_lit3 : List Int32 := [32, 100, 111, 101, 115, 32, 110, 111, 116, 32, 101, 120, 105, 115, 116, 58, 32, 105, 116, 32, 119, 97, 115, 32, 110, 101, 118, 101, 114, 32, 99, 114, 101, 97, 116, 101, 100, 59, 32]
theorem o_lit3_len : o_lit3.length = 39 := rfl
theorem o_lit3_b8 : ∀ c ∈ o_lit3, o_b8 c := (by decide +kernel : ∀ c ∈ o_lit3, ¬ c < 0 ∧ ¬ (255 : Int32) < c)
theorem o_lit3_by : o_by o_lit3 = [.int (32 : Int32), .int (100 : Int32), .int (111 : Int32), .int (101 : Int32), .int (115 : Int32), .int (32 : Int32), .int (110 : Int32), .int (111 : Int32), .int (116 : Int32), .int (32 : Int32), .int (101 : Int32), .int (120 : Int32), .int (105 : Int32), .int (115 : Int32), .int (116 : Int32), .int (58 : Int32), .int (32 : Int32), .int (105 : Int32), .int (116 : Int32), .int (32 : Int32), .int (119 : Int32), .int (97 : Int32), .int (115 : Int32), .int (32 : Int32), .int (110 : Int32), .int (101 : Int32), .int (118 : Int32), .int (101 : Int32), .int (114 : Int32), .int (32 : Int32), .int (99 : Int32), .int (114 : Int32), .int (101 : Int32), .int (97 : Int32), .int (116 : Int32), .int (101 : Int32), .int (100 : Int32), .int (59 : Int32), .int (32 : Int32)] := by first | decide +kernel | rfl
theorem o_lit3_arv {Z : State} {h : Heap} {b : Addr} {kb : ClassId} (F : Arv Z h b kb .byte (39 : Int32) [.int (32 : Int32), .int (100 : Int32), .int (111 : Int32), .int (101 : Int32), .int (115 : Int32), .int (32 : Int32), .int (110 : Int32), .int (111 : Int32), .int (116 : Int32), .int (32 : Int32), .int (101 : Int32), .int (120 : Int32), .int (105 : Int32), .int (115 : Int32), .int (116 : Int32), .int (58 : Int32), .int (32 : Int32), .int (105 : Int32), .int (116 : Int32), .int (32 : Int32), .int (119 : Int32), .int (97 : Int32), .int (115 : Int32), .int (32 : Int32), .int (110 : Int32), .int (101 : Int32), .int (118 : Int32), .int (101 : Int32), .int (114 : Int32), .int (32 : Int32), .int (99 : Int32), .int (114 : Int32), .int (101 : Int32), .int (97 : Int32), .int (116 : Int32), .int (101 : Int32), .int (100 : Int32), .int (59 : Int32), .int (32 : Int32)] (.int 0)) : Arv Z h b kb .byte (Int32.ofNat (List.length o_lit3)) (o_by o_lit3) (.int (0 : Int32)) := by rw [o_lit3_by]; exact F
def o_lit4 : List Int32 := [116, 104, 101, 32, 99, 97, 108, 108, 32, 110, 97, 109, 101, 100, 32, 110, 111, 32, 118, 101, 114, 115, 105, 111, 110]
theorem o_lit4_len : o_lit4.length = 25 := rfl
theorem o_lit4_b8 : ∀ c ∈ o_lit4, o_b8 c := (by decide +kernel : ∀ c ∈ o_lit4, ¬ c < 0 ∧ ¬ (255 : Int32) < c)
theorem o_lit4_by : o_by o_lit4 = [.int (116 : Int32), .int (104 : Int32), .int (101 : Int32), .int (32 : Int32), .int (99 : Int32), .int (97 : Int32), .int (108 : Int32), .int (108 : Int32), .int (32 : Int32), .int (110 : Int32), .int (97 : Int32), .int (109 : Int32), .int (101 : Int32), .int (100 : Int32), .int (32 : Int32), .int (110 : Int32), .int (111 : Int32), .int (32 : Int32), .int (118 : Int32), .int (101 : Int32), .int (114 : Int32), .int (115 : Int32), .int (105 : Int32), .int (111 : Int32), .int (110 : Int32)] := by first | decide +kernel | rfl
theorem o_lit4_arv {Z : State} {h : Heap} {b : Addr} {kb : ClassId} (F : Arv Z h b kb .byte (25 : Int32) [.int (116 : Int32), .int (104 : Int32), .int (101 : Int32), .int (32 : Int32), .int (99 : Int32), .int (97 : Int32), .int (108 : Int32), .int (108 : Int32), .int (32 : Int32), .int (110 : Int32), .int (97 : Int32), .int (109 : Int32), .int (101 : Int32), .int (100 : Int32), .int (32 : Int32), .int (110 : Int32), .int (111 : Int32), .int (32 : Int32), .int (118 : Int32), .int (101 : Int32), .int (114 : Int32), .int (115 : Int32), .int (105 : Int32), .int (111 : Int32), .int (110 : Int32)] (.int 0)) : Arv Z h b kb .byte (Int32.ofNat (List.length o_lit4)) (o_by o_lit4) (.int (0 : Int32)) := by rw [o_lit4_by]; exact F
def o_lit5 : List Int32 := [116, 104, 101, 32, 99, 97, 108, 108, 32, 101, 120, 112, 101, 99, 116, 101, 100, 32, 118, 101, 114, 115, 105, 111, 110, 32]
theorem o_lit5_len : o_lit5.length = 26 := rfl
theorem o_lit5_b8 : ∀ c ∈ o_lit5, o_b8 c := (by decide +kernel : ∀ c ∈ o_lit5, ¬ c < 0 ∧ ¬ (255 : Int32) < c)
theorem o_lit5_by : o_by o_lit5 = [.int (116 : Int32), .int (104 : Int32), .int (101 : Int32), .int (32 : Int32), .int (99 : Int32), .int (97 : Int32), .int (108 : Int32), .int (108 : Int32), .int (32 : Int32), .int (101 : Int32), .int (120 : Int32), .int (112 : Int32), .int (101 : Int32), .int (99 : Int32), .int (116 : Int32), .int (101 : Int32), .int (100 : Int32), .int (32 : Int32), .int (118 : Int32), .int (101 : Int32), .int (114 : Int32), .int (115 : Int32), .int (105 : Int32), .int (111 : Int32), .int (110 : Int32), .int (32 : Int32)] := by first | decide +kernel | rfl
theorem o_lit5_arv {Z : State} {h : Heap} {b : Addr} {kb : ClassId} (F : Arv Z h b kb .byte (26 : Int32) [.int (116 : Int32), .int (104 : Int32), .int (101 : Int32), .int (32 : Int32), .int (99 : Int32), .int (97 : Int32), .int (108 : Int32), .int (108 : Int32), .int (32 : Int32), .int (101 : Int32), .int (120 : Int32), .int (112 : Int32), .int (101 : Int32), .int (99 : Int32), .int (116 : Int32), .int (101 : Int32), .int (100 : Int32), .int (32 : Int32), .int (118 : Int32), .int (101 : Int32), .int (114 : Int32), .int (115 : Int32), .int (105 : Int32), .int (111 : Int32), .int (110 : Int32), .int (32 : Int32)] (.int 0)) : Arv Z h b kb .byte (Int32.ofNat (List.length o_lit5)) (o_by o_lit5) (.int (0 : Int32)) := by rw [o_lit5_by]; exact F
theorem o_dbl {cp k B : Nat} (h : cp ≤ k) (q : 2 * k + 2 ≤ B) : 2 * cp + 2 ≤ B := by omega
theorem o_b8_of {x : Int32} (h0 : 0 ≤ x.toInt) (h1 : x.toInt < 256) : o_b8 x := by
  constructor
  · rw [Int32.lt_iff_toInt_lt, show (0 : Int32).toInt = 0 from rfl]; omega
  · rw [Int32.lt_iff_toInt_lt, show (255 : Int32).toInt = 255 from rfl]; omega
theorem o_b8_mask (y : Int32) : o_b8 ((y &&& (255 : Int32)).toUInt32.toUInt16.toUInt32.toInt32) := by
  have h1 := c_mask y (255 : Int32) 8 (by decide) (by decide)
  rw [o_c16 (by rw [h1]; omega) (by rw [h1]; omega)]
  exact o_b8_of (by rw [h1]; omega) (by rw [h1]; omega)
theorem o_b8_nar {y : Int32} (h : o_b8 y) : o_b8 (nar .char y) := by
  have h1 := h.1; have h2 := h.2
  rw [Int32.lt_iff_toInt_lt, show (0 : Int32).toInt = 0 from rfl] at h1
  rw [Int32.lt_iff_toInt_lt, show (255 : Int32).toInt = 255 from rfl] at h2
  rw [o_nar16 (by omega) (by omega)]; exact h
def Q_rmI0 (Z : State) (a : Addr) (b : Addr) (h0 : Heap) (n0 : Nat) (v : Option Value) (h : Heap) (L : List Loc) : Prop := ∃ t : Addr, ∃ kt : ClassId, v = none ∧ Fr n0 L ∧ Keep h0 h [a] ∧ Exa Z h a oS ∧ Fld Z h a oS "value" "[B" (.ref t) ∧ Fld Z h a oS "coder" "B" (.int (0 : Int32)) ∧ Arv Z h t kt .byte (0 : Int32) [] (.int 0) ∧ True
theorem o_h312 : decode jdk_42_method_149_code 0 = .ok (.aload_n 0, 1) := by decide +kernel
theorem o_h313 : decode jdk_42_method_149_code 1 = .ok (.invokespecial 1, 3) := by decide +kernel
theorem o_h314 : decode jdk_42_method_149_code 4 = .ok (.iload_n 3, 1) := by decide +kernel
theorem o_h315 : decode jdk_42_method_149_code 5 = .ok (.ifCond .ne 22, 3) := by decide +kernel
theorem o_h316 : decode jdk_42_method_149_code 8 = .ok (.aload_n 0, 1) := by decide +kernel
theorem o_h317 : decode jdk_42_method_149_code 9 = .ok (.ldc 7, 2) := by decide +kernel
theorem o_h318 : decode jdk_42_method_149_code 11 = .ok (.getfield 9, 3) := by decide +kernel
theorem o_h319 : decode jdk_42_method_149_code 14 = .ok (.putfield 9, 3) := by decide +kernel
theorem o_h320 : decode jdk_42_method_149_code 17 = .ok (.aload_n 0, 1) := by decide +kernel
theorem o_h321 : decode jdk_42_method_149_code 18 = .ok (.ldc 7, 2) := by decide +kernel
theorem o_h322 : decode jdk_42_method_149_code 20 = .ok (.getfield 15, 3) := by decide +kernel
theorem o_h323 : decode jdk_42_method_149_code 23 = .ok (.putfield 15, 3) := by decide +kernel
theorem o_h324 : decode jdk_42_method_149_code 26 = .ok (.return_, 1) := by decide +kernel
theorem rmI0 (l : Launch) (Z : State) (a0 : Array Value) (hw : ∀ d ∈ tables_1, d.before a0 Z = true) (ws : List Jvm.Cond) (a : Addr) (b : Addr) (h0 : Heap) (n0 : Nat) (Z0 : n0 ≤ h0.size) (f0_ : Exa Z h0 a oS) (f1_ : Fld Z h0 a oS "value" "[B" .null) (f2_ : Fld Z h0 a oS "coder" "B" (.int (0 : Int32))) (f3_ : n0 ≤ a)  :
    MetFree l (⟨oS, "<init>", "([CIILjava/lang/Void;)V"⟩ : MethodName) (head1 (Jvm.Cond.code (⟨oS, "<init>", "([CIILjava/lang/Void;)V"⟩ : MethodName) jdk_42_method_149_code 6 none :: ws) (rO 1 4 8 12)) (fun ar_ U => ar_ = #[.ref a, .ref b, (.int 0), (.int 0), .null] ∧ Z.Warmed39 U.vm ∧ U.heap = h0 ∧ CHv Z o_EL U.vm h0) (fun _ _ _ _ _ => True) (fun _ U o U' => ∃ v L, o = .returned v ∧ Q_rmI0 Z a b h0 n0 v U'.heap L ∧ CHr Z o_EL U.vm U.heap U'.vm U'.heap ∧ ReturnedEndW U o U' L (rO 1 4 8 12).cells (rO 1 4 8 12).slots) := by
 refine MetFree.of_bodySF (plainFor_of_name o_h110) hisR ?_
 intro p e s m args below meth c s₁ Bd hml0 hP hK
 obtain ⟨rfl, hZ, hh, hCH⟩ := hP
 have hx := Bd.exec
 have hby := Bd.bytes
 have hml : c.maxLocals = 6 := hml0
 have hown : s.vm.findClass oS = some m.cls := findClass_of_methodNamed Bd.named
 have hnm := (name_of_methodNamed Bd.named Bd.method).1
 have X0 : Stand p l e (rO 1 4 8 12) (s.setVm s.vm) m #[.ref a, .ref b, (.int 0), (.int 0), .null] below meth c s₁ [] 0 0 := Stand.of_body Bd
 have hS0 : s.Since s.vm 0 := (State.WarmedH.refl s).since 0
 have hk0 : 0 ≤ h0.size := Nat.zero_le _
 have hZ : Z.Warmed39 (s.setVm s.vm).vm := hZ
 have hown : (s.setVm s.vm).vm.findClass oS = some m.cls := hown
 have Cr0 : CHr Z o_EL s.vm h0 s.vm h0 := CHr.refl hCH
 have e0 : s₁.heap = h0 := by rw [← hh, Bd.state]; rfl
 have N0 := Fr.nil n0
 obtain ⟨B_, hB_⟩ : ∃ z, z = s₁.setTop (entryFrame m #[.ref a, .ref b, (.int 0), (.int 0), .null] 6) := ⟨_, rfl⟩
 have k0 : o_K p e below (s₁.setTop (mkF m 0 #[.val (.ref a), .val (.ref b), .val (.int 0), .val (.int 0), .val .null, .unset] [])) B_ := by rw [hB_]; exact fun t k => castTop (by clear k; first | (simp [entryFrame, mkF, argsToLocals, Value.category, maxLocals]; done) | rfl) k
 have K0 : Keep h0 h0 [a] := Keep.refl _ _
 have Sf0 := o_safe_null (EL := o_EL) hZ.alike f0_ f1_
 have k1 : o_J p e below s₁ m 1 #[vR a, vR b, vI (0 : Int32), vI (0 : Int32), .val .null, .unset] [.ref a] B_ := fun t_ hh => k0 t_ (by
  refine XS.aloadN X0.here hx rfl (hb hby o_h312) rfl rfl ?_
  exact hh)
 obtain ⟨T21, X22, e23, st24⟩ := initO X0 hx hZ hown (wT hw 15 rfl) (wT hw 16 rfl) (wT hw 17 rfl) e0 (g := (mkF m 1 #[vR a, vR b, vI (0 : Int32), vI (0 : Int32), .val .null, .unset] [.ref a])) rfl (by rw [hml]; rfl) rfl (hb hby o_h313) (by decide) (W := 0) (o_w0 rfl) (by decide)
 have k2 : o_J p e below T21 m 4 #[vR a, vR b, vI (0 : Int32), vI (0 : Int32), .val .null, .unset] [] B_ := fun t_ hh => k1 t_ (st24 t_ hh)
 clear k1 st24
 have k3 : o_J p e below T21 m 9 #[vR a, vR b, vI (0 : Int32), vI (0 : Int32), .val .null, .unset] [.ref a] B_ := fun t_ hh => k2 t_ (by
  refine XS.iloadN X22.here hx rfl (hb hby o_h314) rfl ?_
  refine XS.ifNo X22.here hx rfl (hb hby o_h315) rfl (by decide) ?_
  refine XS.aloadN X22.here hx rfl (hb hby o_h316) rfl rfl ?_
  exact hh)
 clear k2
 obtain ⟨a25, T26, h27, k_28, b29, kb30, X31, e32, E33, hS34, hk35, hZ36, hown37, E38, F39, F40, F41, l42, l43, C44, Lt45, ne46, st47⟩ := ldcCH X22 hx hZ hown (wT hw 18 rfl) (o_strAtoms hw) e23 hS0 hk0 (o_EW hw) (List.mem_of_getElem? (i := 7) rfl) Cr0.1 (vs := []) (z := (0 : Int32)) ⟨by decide, rfl⟩ (by decide) rfl (g := (mkF m 9 #[vR a, vR b, vI (0 : Int32), vI (0 : Int32), .val .null, .unset] [.ref a])) rfl (hb hby o_h317) (n := 0) (by decide) (by decide) (by decide) (by decide)
 have Sf48 := C44.safe f0_.lt Sf0
 have ne49 := (ne46 _ Sf48).1
 have ne50 := (ne46 _ Sf48).2
 have F51 := Exa.ext (h' := h27) E33 f0_
 have F52 := Fld.ext (h' := h27) E33 f1_
 have F53 := Fld.ext (h' := h27) E33 f2_
 have Z54 : n0 ≤ h27.size := Nat.le_trans Z0 E33.1
 have P55 : Keep h0 h27 [a] := K0.ext E33
 have Cr56 := Cr0.trans C44
 have k4 : o_J p e below T26 m 11 #[vR a, vR b, vI (0 : Int32), vI (0 : Int32), .val .null, .unset] [.ref a25, .ref a] B_ := fun t_ hh => k3 t_ (st47 t_ hh)
 clear k3 st47 X22 e23
 obtain ⟨T57, X58, e59, st60⟩ := getF X31 hx hZ36 hown37 (host := "") (Or.inl (wT hw 24 rfl)) Via.refl e32 F40 (g := (mkF m 11 #[vR a, vR b, vI (0 : Int32), vI (0 : Int32), .val .null, .unset] [.ref a25, .ref a])) rfl rfl (hb hby o_h318)
 have k5 : o_J p e below T57 m 14 #[vR a, vR b, vI (0 : Int32), vI (0 : Int32), .val .null, .unset] [.ref b29, .ref a] B_ := fun t_ hh => k4 t_ (st60 t_ hh)
 clear k4 st60 X31 e32
 obtain ⟨T61, h62, X63, e64, W65, st66⟩ := putF X58 hx hZ36 hown37 (host := "") (Or.inl (wT hw 24 rfl)) Via.refl e59 F52 F51 (Or.inr ⟨(wT hw 20 rfl), rfl, hnm⟩) (wT hw 5 rfl) (ty := .array .byte) (by decide) rfl rfl (g := (mkF m 14 #[vR a, vR b, vI (0 : Int32), vI (0 : Int32), .val .null, .unset] [.ref b29, .ref a])) rfl rfl (hb hby o_h319)
 have N67 := Fr.snoc X63 N0 f3_
 have hk68 := Nat.le_trans hk35 (show h27.size ≤ h62.size from Nat.le_of_eq W65.size.symm)
 have F69 := Exa.wr W65 F51
 have F70 : Fld Z h62 a oS "value" "[B" (.ref b29) := Fld.same W65 F52
 have F71 := Fld.other W65 F53 (Or.inr (slot_ne (Or.inr (wT hw 21 rfl)) (Or.inr (wT hw 20 rfl)) (by decide) (t := .byte) (t' := (.array .byte)) (by decide) (by decide)))
 have F72 := F41.other W65 (Ne.symm ne50)
 have F73 := Exa.wr W65 E38
 have F74 := Fld.other W65 F40 (Or.inl (Ne.symm ne49))
 have F75 := Fld.other W65 F39 (Or.inl (Ne.symm ne49))
 have Z76 : n0 ≤ h62.size := W65.size ▸ Z54
 have P77 : Keep h0 h62 [a] := P55.wr W65 (Or.inl (List.mem_of_getElem? (i := 0) rfl))
 have Sf78 := Safe.wr W65 Sf48 Cr56.1 Sf48
 have Cr79 := Cr56.trans (CHr.wr W65 Sf48 Cr56.1)
 have k6 : o_J p e below T61 m 17 #[vR a, vR b, vI (0 : Int32), vI (0 : Int32), .val .null, .unset] [] B_ := fun t_ hh => k5 t_ (st66 t_ hh)
 clear k5 st66 X58 e59
 have k7 : o_J p e below T61 m 18 #[vR a, vR b, vI (0 : Int32), vI (0 : Int32), .val .null, .unset] [.ref a] B_ := fun t_ hh => k6 t_ (by
  refine XS.aloadN X63.here hx rfl (hb hby o_h320) rfl rfl ?_
  exact hh)
 clear k6
 obtain ⟨a80, T81, h82, k_83, b84, kb85, X86, e87, E88, hS89, hk90, hZ91, hown92, E93, F94, F95, F96, l97, l98, C99, Lt100, ne101, st102⟩ := ldcCH X63 hx hZ36 hown37 (wT hw 18 rfl) (o_strAtoms hw) e64 hS34 hk68 (o_EW hw) (List.mem_of_getElem? (i := 7) rfl) Cr79.1 (vs := []) (z := (0 : Int32)) ⟨by decide, rfl⟩ (by decide) rfl (g := (mkF m 18 #[vR a, vR b, vI (0 : Int32), vI (0 : Int32), .val .null, .unset] [.ref a])) rfl (hb hby o_h321) (n := 0) (by decide) (by decide) (by decide) (by decide)
 have Sf103 := C99.safe F69.lt Sf78
 have ne104 := (ne101 _ Sf103).1
 have ne105 := (ne101 _ Sf103).2
 have F106 := Exa.ext (h' := h82) E88 F69
 have F107 := Fld.ext (h' := h82) E88 F70
 have F108 := Fld.ext (h' := h82) E88 F71
 have F109 := F72.ext E88
 have F110 := Exa.ext (h' := h82) E88 F73
 have F111 := Fld.ext (h' := h82) E88 F74
 have F112 := Fld.ext (h' := h82) E88 F75
 have Z113 : n0 ≤ h82.size := Nat.le_trans Z76 E88.1
 have P114 : Keep h0 h82 [a] := P77.ext E88
 have Cr115 := Cr79.trans C99
 have k8 : o_J p e below T81 m 20 #[vR a, vR b, vI (0 : Int32), vI (0 : Int32), .val .null, .unset] [.ref a80, .ref a] B_ := fun t_ hh => k7 t_ (st102 t_ hh)
 clear k7 st102 X63 e64
 obtain ⟨T116, X117, e118, st119⟩ := getF X86 hx hZ91 hown92 (host := "") (Or.inl (wT hw 25 rfl)) Via.refl e87 F94 (g := (mkF m 20 #[vR a, vR b, vI (0 : Int32), vI (0 : Int32), .val .null, .unset] [.ref a80, .ref a])) rfl rfl (hb hby o_h322)
 have k9 : o_J p e below T116 m 23 #[vR a, vR b, vI (0 : Int32), vI (0 : Int32), .val .null, .unset] [(.int 0), .ref a] B_ := fun t_ hh => k8 t_ (st119 t_ hh)
 clear k8 st119 X86 e87
 obtain ⟨T120, h121, X122, e123, W124, st125⟩ := putF X117 hx hZ91 hown92 (host := "") (Or.inl (wT hw 25 rfl)) Via.refl e118 F108 F106 (Or.inr ⟨(wT hw 21 rfl), rfl, hnm⟩) (wT hw 5 rfl) (ty := .byte) (by decide) rfl rfl (g := (mkF m 23 #[vR a, vR b, vI (0 : Int32), vI (0 : Int32), .val .null, .unset] [(.int 0), .ref a])) rfl rfl (hb hby o_h323)
 have N126 := Fr.snoc X122 N67 f3_
 have hk127 := Nat.le_trans hk90 (show h82.size ≤ h121.size from Nat.le_of_eq W124.size.symm)
 have F128 := Exa.wr W124 F106
 have F129 := Fld.other W124 F107 (Or.inr (slot_ne (Or.inr (wT hw 20 rfl)) (Or.inr (wT hw 21 rfl)) (by decide) (t := (.array .byte)) (t' := .byte) (by decide) (by decide)))
 have F130 : Fld Z h121 a oS "coder" "B" (.int 0) := Fld.same W124 F108
 have F131 := F109.other W124 (Ne.symm ne50)
 have F132 := Exa.wr W124 F110
 have F133 := Fld.other W124 F111 (Or.inl (Ne.symm ne49))
 have F134 := Fld.other W124 F112 (Or.inl (Ne.symm ne49))
 have F135 := F96.other W124 (Ne.symm ne105)
 have F136 := Exa.wr W124 E93
 have F137 := Fld.other W124 F95 (Or.inl (Ne.symm ne104))
 have F138 := Fld.other W124 F94 (Or.inl (Ne.symm ne104))
 have Z139 : n0 ≤ h121.size := W124.size ▸ Z113
 have P140 : Keep h0 h121 [a] := P114.wr W124 (Or.inl (List.mem_of_getElem? (i := 0) rfl))
 have Sf141 := Safe.wr W124 Sf103 Cr115.1 Sf103
 have Cr142 := Cr115.trans (CHr.wr W124 Sf103 Cr115.1)
 have k10 : o_J p e below T120 m 26 #[vR a, vR b, vI (0 : Int32), vI (0 : Int32), .val .null, .unset] [] B_ := fun t_ hh => k9 t_ (st125 t_ hh)
 clear k9 st125 X117 e118
 obtain ⟨fs, hr, hrun, hended, hEnd⟩ := X122.leaveW hS89 (by rw [e123]; exact hk127) (v := none) (fun _ => rfl)
 refine ⟨_, _, (o_from hB_ (k10 _ (X122.returnOut hx Bd.returns (hb hby o_h324) hr))), hrun, hended, _, _, rfl, ?_, ?_, hEnd.1, hEnd.2.1, hEnd.2.2.1, hEnd.2.2.2.mono (o_l rfl) (o_l rfl)⟩
 rotate_left
 · show CHr Z o_EL s.vm s.heap T120.vm T120.heap
   rw [hh, e123]
   exact Cr142.trans (CHv.at X122 hZ91 (o_EW hw) Cr142.1)
 show Q_rmI0 Z a b h0 n0 _ T120.heap _
 rw [e123]
 exact ⟨b29, kb30, rfl, N126, P140, F128, F129, F130, F131, trivial⟩
def Q_rmS0 (Z : State) (a : Addr) (b : Addr) (kb : ClassId) (h0 : Heap) (n0 : Nat) (v : Option Value) (h : Heap) (L : List Loc) : Prop := ∃ t : Addr, ∃ kt : ClassId, v = none ∧ Fr n0 L ∧ Keep h0 h [a] ∧ Exa Z h a oS ∧ Fld Z h a oS "value" "[B" (.ref t) ∧ Fld Z h a oS "coder" "B" (.int (0 : Int32)) ∧ Arv Z h t kt .byte (0 : Int32) [] (.int 0) ∧ True
theorem o_h325 : decode jdk_42_method_3_code 0 = .ok (.aload_n 0, 1) := by decide +kernel
theorem o_h326 : decode jdk_42_method_3_code 1 = .ok (.aload_n 1, 1) := by decide +kernel
theorem o_h327 : decode jdk_42_method_3_code 2 = .ok (.iconst 0, 1) := by decide +kernel
theorem o_h328 : decode jdk_42_method_3_code 3 = .ok (.aload_n 1, 1) := by decide +kernel
theorem o_h329 : decode jdk_42_method_3_code 4 = .ok (.arraylength, 1) := by decide +kernel
theorem o_h330 : decode jdk_42_method_3_code 5 = .ok (.aconst_null, 1) := by decide +kernel
theorem o_h331 : decode jdk_42_method_3_code 6 = .ok (.invokespecial 27, 3) := by decide +kernel
theorem o_h332 : parseMethodDescriptor "([CIILjava/lang/Void;)V" = some ⟨[.array .char, .int, .int, .object "java/lang/Void"], none⟩ := by decide +kernel
theorem o_h333 : decode jdk_42_method_3_code 9 = .ok (.return_, 1) := by decide +kernel
theorem rmS0 (l : Launch) (Z : State) (a0 : Array Value) (hw : ∀ d ∈ tables_1, d.before a0 Z = true) (ws : List Jvm.Cond) (a : Addr) (b : Addr) (kb : ClassId) (h0 : Heap) (n0 : Nat) (Z0 : n0 ≤ h0.size) (f0_ : Exa Z h0 a oS) (f1_ : Fld Z h0 a oS "value" "[B" .null) (f2_ : Fld Z h0 a oS "coder" "B" (.int (0 : Int32))) (f3_ : n0 ≤ a) (f4_ : Arv Z h0 b kb .char (0 : Int32) [] (.int (0 : Int32))) (f5_ : b ≠ a)  :
    MetFree l (⟨oS, "<init>", "([C)V"⟩ : MethodName) (head1 (Jvm.Cond.code (⟨oS, "<init>", "([C)V"⟩ : MethodName) jdk_42_method_3_code 2 none :: ws) (rO 2 4 8 29)) (fun ar_ U => ar_ = #[.ref a, .ref b] ∧ Z.Warmed39 U.vm ∧ U.heap = h0 ∧ CHv Z o_EL U.vm h0) (fun _ _ _ _ _ => True) (fun _ U o U' => ∃ v L, o = .returned v ∧ Q_rmS0 Z a b kb h0 n0 v U'.heap L ∧ CHr Z o_EL U.vm U.heap U'.vm U'.heap ∧ ReturnedEndW U o U' L (rO 2 4 8 29).cells (rO 2 4 8 29).slots) := by
 refine MetFree.of_bodySF (plainFor_of_name o_h110) hisR ?_
 intro p e s m args below meth c s₁ Bd hml0 hP hK
 obtain ⟨rfl, hZ, hh, hCH⟩ := hP
 have hx := Bd.exec
 have hby := Bd.bytes
 have hml : c.maxLocals = 2 := hml0
 have hown : s.vm.findClass oS = some m.cls := findClass_of_methodNamed Bd.named
 have hnm := (name_of_methodNamed Bd.named Bd.method).1
 have X0 : Stand p l e (rO 2 4 8 29) (s.setVm s.vm) m #[.ref a, .ref b] below meth c s₁ [] 0 0 := Stand.of_body Bd
 have hS0 : s.Since s.vm 0 := (State.WarmedH.refl s).since 0
 have hk0 : 0 ≤ h0.size := Nat.zero_le _
 have hZ : Z.Warmed39 (s.setVm s.vm).vm := hZ
 have hown : (s.setVm s.vm).vm.findClass oS = some m.cls := hown
 have Cr0 : CHr Z o_EL s.vm h0 s.vm h0 := CHr.refl hCH
 have e0 : s₁.heap = h0 := by rw [← hh, Bd.state]; rfl
 have N0 := Fr.nil n0
 obtain ⟨B_, hB_⟩ : ∃ z, z = s₁.setTop (entryFrame m #[.ref a, .ref b] 2) := ⟨_, rfl⟩
 have k0 : o_K p e below (s₁.setTop (mkF m 0 #[.val (.ref a), .val (.ref b)] [])) B_ := by rw [hB_]; exact fun t k => castTop (by clear k; first | (simp [entryFrame, mkF, argsToLocals, Value.category, maxLocals]; done) | rfl) k
 have K0 : Keep h0 h0 [a] := Keep.refl _ _
 have Sf0 := o_safe_null (EL := o_EL) hZ.alike f0_ f1_
 obtain ⟨cl21, Ar22, -, S23, Ng24, -, -⟩ := id f4_
 have k1 : o_J p e below s₁ m 6 #[vR a, vR b] [.null, (.int 0), (.int 0), .ref b, .ref a] B_ := fun t_ hh => k0 t_ (by
  refine XS.aloadN X0.here hx rfl (hb hby o_h325) rfl rfl ?_
  refine XS.aloadN X0.here hx rfl (hb hby o_h326) rfl rfl ?_
  refine XS.iconst X0.here hx rfl (hb hby o_h327) ?_
  refine XS.aloadN X0.here hx rfl (hb hby o_h328) rfl rfl ?_
  refine X0.arraylength hx (by rw [e0]; exact Ar22.1) (State.isArrayOf_alike hZ.alike Ar22.2.1) (g := (mkF m 4 #[vR a, vR b] [.ref b, (.int 0), .ref b, .ref a])) rfl rfl (hb hby o_h329) _ ?_
  rw [len_of S23 Ng24]
  refine XS.aconstNull X0.here hx rfl (hb hby o_h330) ?_
  exact hh)
 obtain ⟨_, _, ⟨T25, L26, k_27, n_28⟩, -, X29, hSc36, hgr37, ⟨Lc30, hQ31, l_32, y_33, z_34, C38⟩, st35⟩ := X0.specialBackS hx (y := ⟨oS, "<init>", "([CIILjava/lang/Void;)V"⟩) rfl hown (mvT hZ (wT hw 11 rfl)) (mvT hZ (wT hw 12 rfl)) (mvT hZ (wT hw 14 rfl)) (by decide) (backOfSH (W := 0) (rmI0 l Z a0 hw [] a b h0 n0 Z0 f0_ f1_ f2_ f3_ ) hZ (wT hw 14 rfl) (wT hw 6 rfl) (by decide) (by decide) (o_EW hw) Cr0.1) (g := (mkF m 6 #[vR a, vR b] [.null, (.int 0), (.int 0), .ref b, .ref a])) rfl (by rw [hml]; rfl) (Steps.refl _) (a := a) (argsL := [.ref b, (.int 0), (.int 0), .null]) (rest := []) (lenOf o_h332 rfl) rfl (o_w0 rfl) (hb hby o_h331) (fun _ _ => ⟨rfl, e0, o_l rfl, o_l rfl⟩)
 dsimp only [Pt.U, Pt.locs, Pt.cells, Pt.slots] at X29 hSc36 hgr37 l_32 y_33 z_34 st35 hQ31 C38
 subst l_32 y_33 z_34
 obtain ⟨X39, hS40, hZ41, hown42⟩ := rebS hS0 (by rw [e0]; exact hk0) X29 hSc36 hgr37 hZ hown
 have Sf43 := C38.safe f0_.lt Sf0
 have Cr44 := Cr0.trans C38
 obtain ⟨t46, kt47, rfl, N45, K52, F48, F49, F50, F51, -⟩ := hQ31
 have N53 := Fr.app N0 N45
 have F54 := f0_.keep K52
 have F55 := f4_.keep K52 (ninS f5_ nin0)
 have Z56 : n0 ≤ T25.heap.size := Nat.le_trans Z0 K52.1
 have hk57 := Nat.le_trans hk0 K52.1
 have P58 : Keep h0 T25.heap [a] := K0.trans K52 (allS (P := fun x => x ∈ [a] ∨ h0.size ≤ x) (Or.inl (List.mem_of_getElem? (i := 0) rfl)) all0)
 have e59 : T25.heap = T25.heap := rfl
 have k2 : o_J p e below T25 m 9 #[vR a, vR b] [] B_ := fun t_ hh => k1 t_ (st35.trans hh)
 clear k1 st35
 obtain ⟨fs, hr, hrun, hended, hEnd⟩ := X39.leaveW hS40 (by rw [e59]; exact (Nat.le_refl T25.heap.size)) (v := none) (fun _ => rfl)
 refine ⟨_, _, (o_from hB_ (k2 _ (X39.returnOut hx Bd.returns (hb hby o_h333) hr))), hrun, hended, _, _, rfl, ?_, ?_, hEnd.1, hEnd.2.1, hEnd.2.2.1, hEnd.2.2.2.mono (o_l rfl) (o_l rfl)⟩
 rotate_left
 · show CHr Z o_EL s.vm s.heap T25.vm T25.heap
   rw [hh, e59]
   exact Cr44.trans (CHv.at X39 hZ41 (o_EW hw) Cr44.1)
 show Q_rmS0 Z a b kb h0 n0 _ T25.heap _
 rw [e59]
 exact ⟨t46, kt47, rfl, N53, P58, F48, F49, F50, F51, trivial⟩
def Q_rmMk (Z : State) (xv : Int32) (h0 : Heap) (n0 : Nat) (v : Option Value) (h : Heap) (L : List Loc) : Prop := ∃ r : Addr, ∃ tr : Addr, ∃ kr : ClassId, ∃ ms : List Int32, v = some (.ref r) ∧ Fr n0 L ∧ Keep h0 h [] ∧ Exa Z h r oS ∧ Fld Z h r oS "value" "[B" (.ref tr) ∧ Fld Z h r oS "coder" "B" (.int (0 : Int32)) ∧ Arv Z h tr kr .byte (Int32.ofNat (List.length ms)) (o_by ms) (.int (0 : Int32)) ∧ (List.length ms ≤ 2 ∧ ∀ c ∈ ms, o_b8 c) ∧ True
theorem o_h334 : plainName oP = true := by first | (simp [plainName, overriddenIn]; done) | decide +kernel
theorem o_h335 : decode method_3_code 0 = .ok (.iload_n 0, 1) := by decide +kernel
theorem o_h336 : decode method_3_code 1 = .ok (.bipush 16, 2) := by decide +kernel
theorem o_h337 : decode method_3_code 3 = .ok (.iushr, 1) := by decide +kernel
theorem o_h338 : decode method_3_code 4 = .ok (.iconst 3, 1) := by decide +kernel
theorem o_h339 : decode method_3_code 5 = .ok (.iand, 1) := by decide +kernel
theorem o_h340 : decode method_3_code 6 = .ok (.istore_n 1, 1) := by decide +kernel
theorem o_h341 : decode method_3_code 7 = .ok (.iload_n 0, 1) := by decide +kernel
theorem o_h342 : decode method_3_code 8 = .ok (.sipush 255, 3) := by decide +kernel
theorem o_h343 : decode method_3_code 11 = .ok (.iand, 1) := by decide +kernel
theorem o_h344 : decode method_3_code 12 = .ok (.i2c, 1) := by decide +kernel
theorem o_h345 : decode method_3_code 13 = .ok (.istore_n 2, 1) := by decide +kernel
theorem o_h346 : decode method_3_code 14 = .ok (.iload_n 0, 1) := by decide +kernel
theorem o_h347 : decode method_3_code 15 = .ok (.bipush 8, 2) := by decide +kernel
theorem o_h348 : decode method_3_code 17 = .ok (.iushr, 1) := by decide +kernel
theorem o_h349 : decode method_3_code 18 = .ok (.sipush 255, 3) := by decide +kernel
theorem o_h350 : decode method_3_code 21 = .ok (.iand, 1) := by decide +kernel
theorem o_h351 : decode method_3_code 22 = .ok (.i2c, 1) := by decide +kernel
theorem o_h352 : decode method_3_code 23 = .ok (.istore_n 3, 1) := by decide +kernel
theorem o_h353 : decode method_3_code 24 = .ok (.iload_n 1, 1) := by decide +kernel
theorem o_h354 : decode method_3_code 25 = .ok (.ifCond .ne 14, 3) := by decide +kernel
theorem o_h355 : decode method_3_code 28 = .ok (.new 24, 3) := by decide +kernel
theorem o_h356 : decode method_3_code 31 = .ok (.dup, 1) := by decide +kernel
theorem o_h357 : decode method_3_code 32 = .ok (.iconst 0, 1) := by decide +kernel
theorem o_h358 : decode method_3_code 33 = .ok (.newarray .char, 2) := by decide +kernel
theorem o_h359 : decode method_3_code 35 = .ok (.invokespecial 73, 3) := by decide +kernel
theorem o_h360 : parseMethodDescriptor "([C)V" = some ⟨[.array .char], none⟩ := by decide +kernel
theorem o_h361 : decode method_3_code 38 = .ok (.areturn, 1) := by decide +kernel
theorem o_h362 : decode method_3_code 39 = .ok (.iload_n 1, 1) := by decide +kernel
theorem o_h363 : decode method_3_code 40 = .ok (.iconst 1, 1) := by decide +kernel
theorem o_h364 : decode method_3_code 41 = .ok (.if_icmp .ne 18, 3) := by decide +kernel
theorem o_h365 : decode method_3_code 44 = .ok (.new 24, 3) := by decide +kernel
theorem o_h366 : decode method_3_code 47 = .ok (.dup, 1) := by decide +kernel
theorem o_h367 : decode method_3_code 48 = .ok (.iconst 1, 1) := by decide +kernel
theorem o_h368 : decode method_3_code 49 = .ok (.newarray .char, 2) := by decide +kernel
theorem o_h369 : decode method_3_code 51 = .ok (.dup, 1) := by decide +kernel
theorem o_h370 : decode method_3_code 52 = .ok (.iconst 0, 1) := by decide +kernel
theorem o_h371 : decode method_3_code 53 = .ok (.iload_n 2, 1) := by decide +kernel
theorem o_h372 : decode method_3_code 54 = .ok (.castore, 1) := by decide +kernel
theorem o_h373 : decode method_3_code 55 = .ok (.invokespecial 73, 3) := by decide +kernel
theorem o_h374 : decode method_3_code 58 = .ok (.areturn, 1) := by decide +kernel
theorem o_h375 : decode method_3_code 59 = .ok (.new 24, 3) := by decide +kernel
theorem o_h376 : decode method_3_code 62 = .ok (.dup, 1) := by decide +kernel
theorem o_h377 : decode method_3_code 63 = .ok (.iconst 2, 1) := by decide +kernel
theorem o_h378 : decode method_3_code 64 = .ok (.newarray .char, 2) := by decide +kernel
theorem o_h379 : decode method_3_code 66 = .ok (.dup, 1) := by decide +kernel
theorem o_h380 : decode method_3_code 67 = .ok (.iconst 0, 1) := by decide +kernel
theorem o_h381 : decode method_3_code 68 = .ok (.iload_n 2, 1) := by decide +kernel
theorem o_h382 : decode method_3_code 69 = .ok (.castore, 1) := by decide +kernel
theorem o_h383 : decode method_3_code 70 = .ok (.dup, 1) := by decide +kernel
theorem o_h384 : decode method_3_code 71 = .ok (.iconst 1, 1) := by decide +kernel
theorem o_h385 : decode method_3_code 72 = .ok (.iload_n 3, 1) := by decide +kernel
theorem o_h386 : decode method_3_code 73 = .ok (.castore, 1) := by decide +kernel
theorem o_h387 : decode method_3_code 74 = .ok (.invokespecial 73, 3) := by decide +kernel
theorem o_h388 : decode method_3_code 77 = .ok (.areturn, 1) := by decide +kernel
theorem rmMk (l : Launch) (Z : State) (a0 : Array Value) (hw : ∀ d ∈ tables_1, d.before a0 Z = true) (ws : List Jvm.Cond) (xv : Int32) (h0 : Heap) (n0 : Nat) (Z0 : n0 ≤ h0.size) (f0_ : Old Z n0 h0) (ci : Int32) (sC : Sta Z Z.heap oS "COMPACT_STRINGS" "Z" (.int ci)) (hc : ¬ ci = 0) :
    MetFree l (⟨oP, "mk", "(I)Ljava/lang/String;"⟩ : MethodName) (head1 (Jvm.Cond.code (⟨oP, "mk", "(I)Ljava/lang/String;"⟩ : MethodName) method_3_code 4 (some (.object oS)) :: ws) (rO 4 6 12 66)) (fun ar_ U => ar_ = #[.int xv] ∧ Z.Warmed39 U.vm ∧ U.heap = h0 ∧ CHv Z o_EL U.vm h0) (fun _ _ _ _ _ => True) (fun _ U o U' => ∃ v L, o = .returned v ∧ Q_rmMk Z xv h0 n0 v U'.heap L ∧ CHr Z o_EL U.vm U.heap U'.vm U'.heap ∧ ReturnedEndW U o U' L (rO 4 6 12 66).cells (rO 4 6 12 66).slots) := by
 refine MetFree.of_bodySF (plainFor_of_name o_h334) hisR ?_
 intro p e s m args below meth c s₁ Bd hml0 hP hK
 obtain ⟨rfl, hZ, hh, hCH⟩ := hP
 have hx := Bd.exec
 have hby := Bd.bytes
 have hml : c.maxLocals = 4 := hml0
 have hown : s.vm.findClass oP = some m.cls := findClass_of_methodNamed Bd.named
 have hnm := (name_of_methodNamed Bd.named Bd.method).1
 have X0 : Stand p l e (rO 4 6 12 66) (s.setVm s.vm) m #[.int xv] below meth c s₁ [] 0 0 := Stand.of_body Bd
 have hS0 : s.Since s.vm 0 := (State.WarmedH.refl s).since 0
 have hk0 : 0 ≤ h0.size := Nat.zero_le _
 have hZ : Z.Warmed39 (s.setVm s.vm).vm := hZ
 have hown : (s.setVm s.vm).vm.findClass oP = some m.cls := hown
 have Cr0 : CHr Z o_EL s.vm h0 s.vm h0 := CHr.refl hCH
 have e0 : s₁.heap = h0 := by rw [← hh, Bd.state]; rfl
 have N0 := Fr.nil n0
 obtain ⟨B_, hB_⟩ : ∃ z, z = s₁.setTop (entryFrame m #[.int xv] 4) := ⟨_, rfl⟩
 have k0 : o_K p e below (s₁.setTop (mkF m 0 #[.val (.int xv), .unset, .unset, .unset] [])) B_ := by rw [hB_]; exact fun t k => castTop (by clear k; first | (simp [entryFrame, mkF, argsToLocals, Value.category, maxLocals]; done) | rfl) k
 have K0 : Keep h0 h0 [] := Keep.refl _ _
 have k1 : o_J p e below s₁ m 25 #[vI xv, vI (((xv.toUInt32 >>> ((16 : Int32) &&& 31).toUInt32).toInt32) &&& (3 : Int32)), vI ((xv &&& (255 : Int32)).toUInt32.toUInt16.toUInt32.toInt32), vI ((((xv.toUInt32 >>> ((8 : Int32) &&& 31).toUInt32).toInt32) &&& (255 : Int32)).toUInt32.toUInt16.toUInt32.toInt32)] [(.int (((xv.toUInt32 >>> ((16 : Int32) &&& 31).toUInt32).toInt32) &&& (3 : Int32)))] B_ := fun t_ hh => k0 t_ (by
  refine XS.iloadN X0.here hx rfl (hb hby o_h335) rfl ?_
  refine XS.bipush X0.here hx rfl (hb hby o_h336) ?_
  refine XS.iushr X0.here hx rfl (hb hby o_h337) rfl ?_
  refine XS.iconst X0.here hx rfl (hb hby o_h338) ?_
  refine XS.iand X0.here hx rfl (hb hby o_h339) rfl ?_
  refine XS.istoreN X0.here hx rfl (hb hby o_h340) rfl (l' := #[vI xv, vI (((xv.toUInt32 >>> ((16 : Int32) &&& 31).toUInt32).toInt32) &&& (3 : Int32)), .unset, .unset]) rfl ?_
  refine XS.iloadN X0.here hx rfl (hb hby o_h341) rfl ?_
  refine XS.sipush X0.here hx rfl (hb hby o_h342) ?_
  refine XS.iand X0.here hx rfl (hb hby o_h343) rfl ?_
  refine XS.i2c X0.here hx rfl (hb hby o_h344) rfl ?_
  refine XS.istoreN X0.here hx rfl (hb hby o_h345) rfl (l' := #[vI xv, vI (((xv.toUInt32 >>> ((16 : Int32) &&& 31).toUInt32).toInt32) &&& (3 : Int32)), vI ((xv &&& (255 : Int32)).toUInt32.toUInt16.toUInt32.toInt32), .unset]) rfl ?_
  refine XS.iloadN X0.here hx rfl (hb hby o_h346) rfl ?_
  show Steps p.tables e below (s₁.setTop (mkF m 15 #[vI xv, vI (((xv.toUInt32 >>> ((16 : Int32) &&& 31).toUInt32).toInt32) &&& (3 : Int32)), vI ((xv &&& (255 : Int32)).toUInt32.toUInt16.toUInt32.toInt32), .unset] [.int xv])) _
  refine XS.bipush X0.here hx rfl (hb hby o_h347) ?_
  refine XS.iushr X0.here hx rfl (hb hby o_h348) rfl ?_
  refine XS.sipush X0.here hx rfl (hb hby o_h349) ?_
  refine XS.iand X0.here hx rfl (hb hby o_h350) rfl ?_
  refine XS.i2c X0.here hx rfl (hb hby o_h351) rfl ?_
  refine XS.istoreN X0.here hx rfl (hb hby o_h352) rfl (l' := #[vI xv, vI (((xv.toUInt32 >>> ((16 : Int32) &&& 31).toUInt32).toInt32) &&& (3 : Int32)), vI ((xv &&& (255 : Int32)).toUInt32.toUInt16.toUInt32.toInt32), vI ((((xv.toUInt32 >>> ((8 : Int32) &&& 31).toUInt32).toInt32) &&& (255 : Int32)).toUInt32.toUInt16.toUInt32.toInt32)]) rfl ?_
  refine XS.iloadN X0.here hx rfl (hb hby o_h353) rfl ?_
  exact hh)
 by_cases c25 : (((xv.toUInt32 >>> ((16 : Int32) &&& 31).toUInt32).toInt32) &&& (3 : Int32)) = 0
 ·
  have k2 : o_J p e below s₁ m 28 #[vI xv, vI (((xv.toUInt32 >>> ((16 : Int32) &&& 31).toUInt32).toInt32) &&& (3 : Int32)), vI ((xv &&& (255 : Int32)).toUInt32.toUInt16.toUInt32.toInt32), vI ((((xv.toUInt32 >>> ((8 : Int32) &&& 31).toUInt32).toInt32) &&& (255 : Int32)).toUInt32.toUInt16.toUInt32.toInt32)] [] B_ := fun t_ hh => k1 t_ (by
   refine XS.ifNo X0.here hx rfl (hb hby o_h354) rfl (o_ifF_ne c25) ?_
   exact hh)
  clear k1
  obtain ⟨T21, h22, X23, e24, E25, A26, D27, U29, st28⟩ := newO X0 hx hZ hown (wT hw 4 rfl) (wT hw 5 rfl) (wT hw 6 rfl) e0 (g := (mkF m 28 #[vI xv, vI (((xv.toUInt32 >>> ((16 : Int32) &&& 31).toUInt32).toInt32) &&& (3 : Int32)), vI ((xv &&& (255 : Int32)).toUInt32.toUInt16.toUInt32.toInt32), vI ((((xv.toUInt32 >>> ((8 : Int32) &&& 31).toUInt32).toInt32) &&& (255 : Int32)).toUInt32.toUInt16.toUInt32.toInt32)] [])) rfl (hb hby o_h355) (by decide) (by decide)
  obtain ⟨a30, g31⟩ : ∃ z, z = h0.size := ⟨_, rfl⟩
  rw [← g31] at A26 D27 U29 st28
  have H032 : h0.size ≤ a30 := Nat.le_trans K0.1 (Nat.le_of_eq g31.symm)
  have G33 : n0 ≤ a30 := Nat.le_trans Z0 (Nat.le_of_eq g31.symm)
  have hk34 := Nat.le_trans hk0 E25.1
  have Sf35 := Safe.ext E25 Cr0.1 (Safe.new (x := a30) (Nat.le_of_eq g31.symm))
  have Z36 : n0 ≤ h22.size := Nat.le_trans Z0 E25.1
  have O37 := f0_.ext E25
  have P38 : Keep h0 h22 [] := K0.ext E25
  have Cr39 := Cr0.trans (CHr.ext E25 Cr0.1)
  have F40 : Fld Z h22 a30 oS "value" "[B" .null := D27 (Or.inr (wT hw 20 rfl)) (ty := .array .byte) (by decide)
  have F41 : Fld Z h22 a30 oS "coder" "B" (.int 0) := D27 (Or.inr (wT hw 21 rfl)) (ty := .byte) (by decide)
  have k3 : o_J p e below T21 m 31 #[vI xv, vI (((xv.toUInt32 >>> ((16 : Int32) &&& 31).toUInt32).toInt32) &&& (3 : Int32)), vI ((xv &&& (255 : Int32)).toUInt32.toUInt16.toUInt32.toInt32), vI ((((xv.toUInt32 >>> ((8 : Int32) &&& 31).toUInt32).toInt32) &&& (255 : Int32)).toUInt32.toUInt16.toUInt32.toInt32)] [.ref a30] B_ := fun t_ hh => k2 t_ (st28 t_ hh)
  clear k2 st28
  have k4 : o_J p e below T21 m 33 #[vI xv, vI (((xv.toUInt32 >>> ((16 : Int32) &&& 31).toUInt32).toInt32) &&& (3 : Int32)), vI ((xv &&& (255 : Int32)).toUInt32.toUInt16.toUInt32.toInt32), vI ((((xv.toUInt32 >>> ((8 : Int32) &&& 31).toUInt32).toInt32) &&& (255 : Int32)).toUInt32.toUInt16.toUInt32.toInt32)] [(.int 0), .ref a30, .ref a30] B_ := fun t_ hh => k3 t_ (by
   refine XS.dup X23.here hx rfl (hb hby o_h356) rfl rfl ?_
   refine XS.iconst X23.here hx rfl (hb hby o_h357) ?_
   exact hh)
  clear k3
  obtain ⟨T42, h43, kA44, X45, e46, E47, A48, st50⟩ := newP X23 hx hZ (wT hw 7 rfl) e24 (g := (mkF m 33 #[vI xv, vI (((xv.toUInt32 >>> ((16 : Int32) &&& 31).toUInt32).toInt32) &&& (3 : Int32)), vI ((xv &&& (255 : Int32)).toUInt32.toUInt16.toUInt32.toInt32), vI ((((xv.toUInt32 >>> ((8 : Int32) &&& 31).toUInt32).toInt32) &&& (255 : Int32)).toUInt32.toUInt16.toUInt32.toInt32)] [(.int 0), .ref a30, .ref a30])) rfl (hb hby o_h358) rfl (by decide) (cap := 0) (by decide) (by decide) (by decide) (by decide)
  obtain ⟨a51, g52⟩ : ∃ z, z = h22.size := ⟨_, rfl⟩
  rw [← g52] at A48 st50
  have H053 : h0.size ≤ a51 := Nat.le_trans P38.1 (Nat.le_of_eq g52.symm)
  have G54 : n0 ≤ a51 := Nat.le_trans Z36 (Nat.le_of_eq g52.symm)
  have hk55 := Nat.le_trans hk34 E47.1
  have Sf56 := Safe.ext E47 Cr39.1 (Safe.new (x := a51) (Nat.le_of_eq g52.symm))
  have F57 := Exa.ext (h' := h43) E47 A26
  have F58 := Fld.ext (h' := h43) E47 F40
  have F59 := Fld.ext (h' := h43) E47 F41
  have Z60 : n0 ≤ h43.size := Nat.le_trans Z36 E47.1
  have O61 := O37.ext E47
  have P62 : Keep h0 h43 [] := P38.ext E47
  have Sf63 := Safe.ext E47 Cr39.1 Sf35
  have Cr64 := Cr39.trans (CHr.ext E47 Cr39.1)
  have V65 : Arv Z h43 a51 kA44 .char (0 : Int32) [] (.int 0) := Arv.pad (Arv.new A48 (by decide)) (pad_rep [] (.int 0) 0)
  have k5 : o_J p e below T42 m 35 #[vI xv, vI (((xv.toUInt32 >>> ((16 : Int32) &&& 31).toUInt32).toInt32) &&& (3 : Int32)), vI ((xv &&& (255 : Int32)).toUInt32.toUInt16.toUInt32.toInt32), vI ((((xv.toUInt32 >>> ((8 : Int32) &&& 31).toUInt32).toInt32) &&& (255 : Int32)).toUInt32.toUInt16.toUInt32.toInt32)] [.ref a51, .ref a30, .ref a30] B_ := fun t_ hh => k4 t_ (st50 t_ hh)
  clear k4 st50 X23 e24
  have ne77 : a30 ≠ a51 := by rw [g52]; exact Nat.ne_of_lt A26.lt
  obtain ⟨_, _, ⟨T66, L67, k_68, n_69⟩, -, X70, hSc78, hgr79, ⟨Lc71, hQ72, l_73, y_74, z_75, C80⟩, st76⟩ := X45.specialBackS hx (y := ⟨oS, "<init>", "([C)V"⟩) rfl hown (mvT hZ (wT hw 8 rfl)) (mvT hZ (wT hw 9 rfl)) (mvT hZ (wT hw 10 rfl)) (by decide) (backOfSH (W := 1) (rmS0 l Z a0 hw [] a30 a51 kA44 h43 n0 Z60 F57 F58 F59 G33 V65 (Ne.symm ne77) ) hZ (wT hw 10 rfl) (wT hw 6 rfl) (by decide) (by decide) (o_EW hw) Cr64.1) (g := (mkF m 35 #[vI xv, vI (((xv.toUInt32 >>> ((16 : Int32) &&& 31).toUInt32).toInt32) &&& (3 : Int32)), vI ((xv &&& (255 : Int32)).toUInt32.toUInt16.toUInt32.toInt32), vI ((((xv.toUInt32 >>> ((8 : Int32) &&& 31).toUInt32).toInt32) &&& (255 : Int32)).toUInt32.toUInt16.toUInt32.toInt32)] [.ref a51, .ref a30, .ref a30])) rfl (by rw [hml]; rfl) (Steps.refl _) (a := a30) (argsL := [.ref a51]) (rest := [.ref a30]) (lenOf o_h360 rfl) rfl (o_w0 rfl) (hb hby o_h359) (fun _ _ => ⟨rfl, e46, o_l rfl, o_l rfl⟩)
  dsimp only [Pt.U, Pt.locs, Pt.cells, Pt.slots] at X70 hSc78 hgr79 l_73 y_74 z_75 st76 hQ72 C80
  subst l_73 y_74 z_75
  obtain ⟨X81, hS82, hZ83, hown84⟩ := rebS hS0 (by rw [e46]; exact hk55) X70 hSc78 hgr79 hZ hown
  have Sf85 := C80.safe F57.lt Sf63
  have Sf86 := C80.safe V65.lt Sf56
  have Cr87 := Cr64.trans C80
  obtain ⟨t89, kt90, rfl, N88, K95, F91, F92, F93, F94, -⟩ := hQ72
  have N96 := Fr.app N0 N88
  have F97 := F57.keep K95
  have F98 := V65.keep K95 (ninS (Ne.symm ne77) nin0)
  have Z99 : n0 ≤ T66.heap.size := Nat.le_trans Z60 K95.1
  have hk100 := Nat.le_trans hk55 K95.1
  have O101 := O61.keep K95 (allS G33 all0)
  have P102 : Keep h0 T66.heap [] := P62.trans K95 (allS (P := fun x => x ∈ [] ∨ h0.size ≤ x) (Or.inr H032) all0)
  have e103 : T66.heap = T66.heap := rfl
  have k6 : o_J p e below T66 m 38 #[vI xv, vI (((xv.toUInt32 >>> ((16 : Int32) &&& 31).toUInt32).toInt32) &&& (3 : Int32)), vI ((xv &&& (255 : Int32)).toUInt32.toUInt16.toUInt32.toInt32), vI ((((xv.toUInt32 >>> ((8 : Int32) &&& 31).toUInt32).toInt32) &&& (255 : Int32)).toUInt32.toUInt16.toUInt32.toInt32)] [.ref a30] B_ := fun t_ hh => k5 t_ (st76.trans hh)
  clear k5 st76 X45 e46
  obtain ⟨fs, hr, hrun, hended, hEnd⟩ := X81.leaveW hS82 (by rw [e103]; exact (Nat.le_refl T66.heap.size)) (v := some (.ref a30)) (fun h => by rw [Bd.returns] at h; cases h)
  refine ⟨_, _, (o_from hB_ (k6 _ (retOut X81 hx (t := .object oS) Bd.returns rfl (Or.inr (Or.inr (Or.inr (Or.inr ⟨rfl, rfl, rfl⟩)))) (hb hby o_h361) hr))), hrun, hended, _, _, rfl, ?_, ?_, hEnd.1, hEnd.2.1, hEnd.2.2.1, hEnd.2.2.2.mono (o_l rfl) (o_l rfl)⟩
  rotate_left
  · show CHr Z o_EL s.vm s.heap T66.vm T66.heap
    rw [hh, e103]
    exact Cr87.trans (CHv.at X81 hZ83 (o_EW hw) Cr87.1)
  show Q_rmMk Z xv h0 n0 _ T66.heap _
  rw [e103]
  exact ⟨a30, t89, kt90, ([] : List Int32), rfl, N96, P102, F91, F92, F93, F94, ⟨o_l rfl, fun _ q => nomatch q⟩, trivial⟩
 ·
  have k7 : o_J p e below s₁ m 41 #[vI xv, vI (((xv.toUInt32 >>> ((16 : Int32) &&& 31).toUInt32).toInt32) &&& (3 : Int32)), vI ((xv &&& (255 : Int32)).toUInt32.toUInt16.toUInt32.toInt32), vI ((((xv.toUInt32 >>> ((8 : Int32) &&& 31).toUInt32).toInt32) &&& (255 : Int32)).toUInt32.toUInt16.toUInt32.toInt32)] [(.int 1), (.int (((xv.toUInt32 >>> ((16 : Int32) &&& 31).toUInt32).toInt32) &&& (3 : Int32)))] B_ := fun t_ hh => k1 t_ (by
   refine XS.ifYes X0.here hx rfl (pc0 := 25) (pc' := 39) rfl (hb hby o_h354) rfl (o_ifT_ne c25) (by decide) (by decide) ?_
   refine XS.iloadN X0.here hx rfl (hb hby o_h362) rfl ?_
   refine XS.iconst X0.here hx rfl (hb hby o_h363) ?_
   exact hh)
  clear k1
  by_cases c41 : (((xv.toUInt32 >>> ((16 : Int32) &&& 31).toUInt32).toInt32) &&& (3 : Int32)) = (1 : Int32)
  ·
   have k8 : o_J p e below s₁ m 44 #[vI xv, vI (((xv.toUInt32 >>> ((16 : Int32) &&& 31).toUInt32).toInt32) &&& (3 : Int32)), vI ((xv &&& (255 : Int32)).toUInt32.toUInt16.toUInt32.toInt32), vI ((((xv.toUInt32 >>> ((8 : Int32) &&& 31).toUInt32).toInt32) &&& (255 : Int32)).toUInt32.toUInt16.toUInt32.toInt32)] [] B_ := fun t_ hh => k7 t_ (by
    refine XS.icmpNo X0.here hx rfl (hb hby o_h364) rfl (o_icF_ne c41) ?_
    exact hh)
   clear k7
   obtain ⟨T104, h105, X106, e107, E108, A109, D110, U112, st111⟩ := newO X0 hx hZ hown (wT hw 4 rfl) (wT hw 5 rfl) (wT hw 6 rfl) e0 (g := (mkF m 44 #[vI xv, vI (((xv.toUInt32 >>> ((16 : Int32) &&& 31).toUInt32).toInt32) &&& (3 : Int32)), vI ((xv &&& (255 : Int32)).toUInt32.toUInt16.toUInt32.toInt32), vI ((((xv.toUInt32 >>> ((8 : Int32) &&& 31).toUInt32).toInt32) &&& (255 : Int32)).toUInt32.toUInt16.toUInt32.toInt32)] [])) rfl (hb hby o_h365) (by decide) (by decide)
   obtain ⟨a113, g114⟩ : ∃ z, z = h0.size := ⟨_, rfl⟩
   rw [← g114] at A109 D110 U112 st111
   have H0115 : h0.size ≤ a113 := Nat.le_trans K0.1 (Nat.le_of_eq g114.symm)
   have G116 : n0 ≤ a113 := Nat.le_trans Z0 (Nat.le_of_eq g114.symm)
   have hk117 := Nat.le_trans hk0 E108.1
   have Sf118 := Safe.ext E108 Cr0.1 (Safe.new (x := a113) (Nat.le_of_eq g114.symm))
   have Z119 : n0 ≤ h105.size := Nat.le_trans Z0 E108.1
   have O120 := f0_.ext E108
   have P121 : Keep h0 h105 [] := K0.ext E108
   have Cr122 := Cr0.trans (CHr.ext E108 Cr0.1)
   have F123 : Fld Z h105 a113 oS "value" "[B" .null := D110 (Or.inr (wT hw 20 rfl)) (ty := .array .byte) (by decide)
   have F124 : Fld Z h105 a113 oS "coder" "B" (.int 0) := D110 (Or.inr (wT hw 21 rfl)) (ty := .byte) (by decide)
   have k9 : o_J p e below T104 m 47 #[vI xv, vI (((xv.toUInt32 >>> ((16 : Int32) &&& 31).toUInt32).toInt32) &&& (3 : Int32)), vI ((xv &&& (255 : Int32)).toUInt32.toUInt16.toUInt32.toInt32), vI ((((xv.toUInt32 >>> ((8 : Int32) &&& 31).toUInt32).toInt32) &&& (255 : Int32)).toUInt32.toUInt16.toUInt32.toInt32)] [.ref a113] B_ := fun t_ hh => k8 t_ (st111 t_ hh)
   clear k8 st111
   have k10 : o_J p e below T104 m 49 #[vI xv, vI (((xv.toUInt32 >>> ((16 : Int32) &&& 31).toUInt32).toInt32) &&& (3 : Int32)), vI ((xv &&& (255 : Int32)).toUInt32.toUInt16.toUInt32.toInt32), vI ((((xv.toUInt32 >>> ((8 : Int32) &&& 31).toUInt32).toInt32) &&& (255 : Int32)).toUInt32.toUInt16.toUInt32.toInt32)] [(.int 1), .ref a113, .ref a113] B_ := fun t_ hh => k9 t_ (by
    refine XS.dup X106.here hx rfl (hb hby o_h366) rfl rfl ?_
    refine XS.iconst X106.here hx rfl (hb hby o_h367) ?_
    exact hh)
   clear k9
   obtain ⟨T125, h126, kA127, X128, e129, E130, A131, st133⟩ := newP X106 hx hZ (wT hw 7 rfl) e107 (g := (mkF m 49 #[vI xv, vI (((xv.toUInt32 >>> ((16 : Int32) &&& 31).toUInt32).toInt32) &&& (3 : Int32)), vI ((xv &&& (255 : Int32)).toUInt32.toUInt16.toUInt32.toInt32), vI ((((xv.toUInt32 >>> ((8 : Int32) &&& 31).toUInt32).toInt32) &&& (255 : Int32)).toUInt32.toUInt16.toUInt32.toInt32)] [(.int 1), .ref a113, .ref a113])) rfl (hb hby o_h368) rfl (by decide) (cap := 1) (by decide) (by decide) (by decide) (by decide)
   obtain ⟨a134, g135⟩ : ∃ z, z = h105.size := ⟨_, rfl⟩
   rw [← g135] at A131 st133
   have H0136 : h0.size ≤ a134 := Nat.le_trans P121.1 (Nat.le_of_eq g135.symm)
   have G137 : n0 ≤ a134 := Nat.le_trans Z119 (Nat.le_of_eq g135.symm)
   have hk138 := Nat.le_trans hk117 E130.1
   have Sf139 := Safe.ext E130 Cr122.1 (Safe.new (x := a134) (Nat.le_of_eq g135.symm))
   have F140 := Exa.ext (h' := h126) E130 A109
   have F141 := Fld.ext (h' := h126) E130 F123
   have F142 := Fld.ext (h' := h126) E130 F124
   have Z143 : n0 ≤ h126.size := Nat.le_trans Z119 E130.1
   have O144 := O120.ext E130
   have P145 : Keep h0 h126 [] := P121.ext E130
   have Sf146 := Safe.ext E130 Cr122.1 Sf118
   have Cr147 := Cr122.trans (CHr.ext E130 Cr122.1)
   have V148 : Arv Z h126 a134 kA127 .char (1 : Int32) [(.int 0)] (.int 0) := Arv.pad (Arv.new A131 (by decide)) (pad_rep [] (.int 0) 1)
   have k11 : o_J p e below T125 m 51 #[vI xv, vI (((xv.toUInt32 >>> ((16 : Int32) &&& 31).toUInt32).toInt32) &&& (3 : Int32)), vI ((xv &&& (255 : Int32)).toUInt32.toUInt16.toUInt32.toInt32), vI ((((xv.toUInt32 >>> ((8 : Int32) &&& 31).toUInt32).toInt32) &&& (255 : Int32)).toUInt32.toUInt16.toUInt32.toInt32)] [.ref a134, .ref a113, .ref a113] B_ := fun t_ hh => k10 t_ (st133 t_ hh)
   clear k10 st133 X106 e107
   have k12 : o_J p e below T125 m 54 #[vI xv, vI (((xv.toUInt32 >>> ((16 : Int32) &&& 31).toUInt32).toInt32) &&& (3 : Int32)), vI ((xv &&& (255 : Int32)).toUInt32.toUInt16.toUInt32.toInt32), vI ((((xv.toUInt32 >>> ((8 : Int32) &&& 31).toUInt32).toInt32) &&& (255 : Int32)).toUInt32.toUInt16.toUInt32.toInt32)] [(.int ((xv &&& (255 : Int32)).toUInt32.toUInt16.toUInt32.toInt32)), (.int 0), .ref a134, .ref a134, .ref a113, .ref a113] B_ := fun t_ hh => k11 t_ (by
    refine XS.dup X128.here hx rfl (hb hby o_h369) rfl rfl ?_
    refine XS.iconst X128.here hx rfl (hb hby o_h370) ?_
    refine XS.iloadN X128.here hx rfl (hb hby o_h371) rfl ?_
    exact hh)
   clear k11
   obtain ⟨cl149, Ar150, q151, S152, Ng153, H154, Gf155⟩ := id V148
   have hin156 := inb_of (j := (0 : Int32)) S152 (by decide)
   obtain ⟨T157, h158, X159, e160, W161, st162⟩ := stC X128 hx hZ e129 Ar150 (j := (0 : Int32)) hin156 (g := (mkF m 54 #[vI xv, vI (((xv.toUInt32 >>> ((16 : Int32) &&& 31).toUInt32).toInt32) &&& (3 : Int32)), vI ((xv &&& (255 : Int32)).toUInt32.toUInt16.toUInt32.toInt32), vI ((((xv.toUInt32 >>> ((8 : Int32) &&& 31).toUInt32).toInt32) &&& (255 : Int32)).toUInt32.toUInt16.toUInt32.toInt32)] [(.int ((xv &&& (255 : Int32)).toUInt32.toUInt16.toUInt32.toInt32)), (.int 0), .ref a134, .ref a134, .ref a113, .ref a113])) rfl rfl (hb hby o_h372)
   have N163 := Fr.snoc X159 N0 G137
   have K164 : Keep h126 h158 [a134] := Keep.of_wr W161
   have V165 := Arv.set Ar150 q151 S152 Ng153 H154 Gf155 (v := (.int (nar .char ((xv &&& (255 : Int32)).toUInt32.toUInt16.toUInt32.toInt32)))) (fits_nar_char _) W161 0 rfl (o_lt rfl)
   have k13 : o_J p e below T157 m 55 #[vI xv, vI (((xv.toUInt32 >>> ((16 : Int32) &&& 31).toUInt32).toInt32) &&& (3 : Int32)), vI ((xv &&& (255 : Int32)).toUInt32.toUInt16.toUInt32.toInt32), vI ((((xv.toUInt32 >>> ((8 : Int32) &&& 31).toUInt32).toInt32) &&& (255 : Int32)).toUInt32.toUInt16.toUInt32.toInt32)] [.ref a134, .ref a113, .ref a113] B_ := fun t_ hh => k12 t_ (st162 t_ hh)
   clear k12 st162 X128 e129 cl149 Ar150 q151 S152 Ng153 H154 Gf155 hin156 W161 V148
   have V166 : Arv Z h158 a134 kA127 .char (1 : Int32) [(.int (nar .char ((xv &&& (255 : Int32)).toUInt32.toUInt16.toUInt32.toInt32)))] (.int 0) := V165
   have F167 := F140.keep K164
   have ne169 : a113 ≠ a134 := by rw [g135]; exact Nat.ne_of_lt A109.lt
   have F168 := F141.keep K164 (ninS ne169 nin0)
   have F170 := F142.keep K164 (ninS ne169 nin0)
   have Z171 : n0 ≤ h158.size := Nat.le_trans Z143 K164.1
   have hk172 := Nat.le_trans hk138 K164.1
   have Sf173 := Safe.keep K164 (allS Sf139 all0) Cr147.1 Sf146
   have Sf174 := Safe.keep K164 (allS Sf139 all0) Cr147.1 Sf139
   have Cr175 := Cr147.trans (CHr.keep K164 (allS Sf139 all0) Cr147.1)
   have O176 := O144.keep K164 (allS G137 all0)
   have P177 : Keep h0 h158 [] := P145.trans K164 (allS (P := fun x => x ∈ [] ∨ h0.size ≤ x) (Or.inr H0136) all0)
   have hp178 : ∀ c ∈ ([(nar .char ((xv &&& (255 : Int32)).toUInt32.toUInt16.toUInt32.toInt32))] : List Int32), o_b8 c := (List.forall_mem_cons.mpr ⟨(o_b8_nar (o_b8_mask _)), (fun _ q => nomatch q)⟩)
   have F179 : Arv Z h158 a134 kA127 .char (Int32.ofNat 1) (([(nar .char ((xv &&& (255 : Int32)).toUInt32.toUInt16.toUInt32.toInt32))] : List Int32).map Value.int) (.int 0) := V166
   obtain ⟨_, _, ⟨T180, L181, k_182, n_183⟩, -, X184, ⟨Lc185, hQ186, l_187, y_188, z_189⟩, st190⟩ := X159.specialBack hx (y := ⟨oS, "<init>", "([C)V"⟩) rfl hown (mvT hZ (wT hw 8 rfl)) (mvT hZ (wT hw 9 rfl)) (mvT hZ (wT hw 10 rfl)) (by decide) (StrChars.Road.backV (W := 1) hZ (fun d hd => hw d (o_sub_words d hd)) (kI := 4) (wT hw 5 rfl) (cs := ([(nar .char ((xv &&& (255 : Int32)).toUInt32.toUInt16.toUInt32.toInt32))] : List Int32)) (n0 := n0) G116 Z171 F167 F168 F170 F179 (Sta.ext O176.2 sC) hc rfl rfl (o_lt rfl) (o_l rfl) (fun c hc => (hp178 c hc)) rfl (by decide) (by decide)) (g := (mkF m 55 #[vI xv, vI (((xv.toUInt32 >>> ((16 : Int32) &&& 31).toUInt32).toInt32) &&& (3 : Int32)), vI ((xv &&& (255 : Int32)).toUInt32.toUInt16.toUInt32.toInt32), vI ((((xv.toUInt32 >>> ((8 : Int32) &&& 31).toUInt32).toInt32) &&& (255 : Int32)).toUInt32.toUInt16.toUInt32.toInt32)] [.ref a134, .ref a113, .ref a113])) rfl (by rw [hml]; rfl) (Steps.refl _) (a := a113) (argsL := [.ref a134]) (rest := [.ref a113]) (lenOf o_h360 rfl) rfl (o_w0 rfl) (hb hby o_h373) (fun _ _ => ⟨rfl, e160, o_l rfl, o_l rfl⟩)
   dsimp only [Pt.U, Pt.locs, Pt.cells, Pt.slots] at X184 l_187 y_188 z_189 st190 hQ186
   subst l_187 y_188 z_189
   obtain ⟨rfl, N191, K192, E193, F194, t195, kb196, G197, G198, G199, F200, F201⟩ := hQ186
   have N202 := Fr.app N163 N191
   have F203 := F167.keep K192
   have F204 := F179.keep K192 (ninS (Ne.symm ne169) nin0)
   have Z205 : n0 ≤ T180.heap.size := Nat.le_trans Z171 K192.1
   have hk206 := Nat.le_trans hk172 K192.1
   have Sf207 := Safe.keep K192 (allS Sf173 all0) Cr175.1 Sf173
   have Sf208 := Safe.keep K192 (allS Sf173 all0) Cr175.1 Sf174
   have Cr209 := Cr175.trans (CHr.keep K192 (allS Sf173 all0) Cr175.1)
   have O210 := O176.keep K192 (allS G116 all0)
   have P211 : Keep h0 T180.heap [] := P177.trans K192 (allS (P := fun x => x ∈ [] ∨ h0.size ≤ x) (Or.inr H0115) all0)
   have S212 : o_Str Z T180.heap a113 t195 kb196 ([(nar .char ((xv &&& (255 : Int32)).toUInt32.toUInt16.toUInt32.toInt32))] : List Int32) := ⟨E193, F200, F194, F201⟩
   have e213 : T180.heap = T180.heap := rfl
   have k14 : o_J p e below T180 m 58 #[vI xv, vI (((xv.toUInt32 >>> ((16 : Int32) &&& 31).toUInt32).toInt32) &&& (3 : Int32)), vI ((xv &&& (255 : Int32)).toUInt32.toUInt16.toUInt32.toInt32), vI ((((xv.toUInt32 >>> ((8 : Int32) &&& 31).toUInt32).toInt32) &&& (255 : Int32)).toUInt32.toUInt16.toUInt32.toInt32)] [.ref a113] B_ := fun t_ hh => k13 t_ (st190.trans hh)
   clear k13 st190 X159 e160
   obtain ⟨fs, hr, hrun, hended, hEnd⟩ := X184.leaveW hS0 (by rw [e213]; exact hk206) (v := some (.ref a113)) (fun h => by rw [Bd.returns] at h; cases h)
   refine ⟨_, _, (o_from hB_ (k14 _ (retOut X184 hx (t := .object oS) Bd.returns rfl (Or.inr (Or.inr (Or.inr (Or.inr ⟨rfl, rfl, rfl⟩)))) (hb hby o_h374) hr))), hrun, hended, _, _, rfl, ?_, ?_, hEnd.1, hEnd.2.1, hEnd.2.2.1, hEnd.2.2.2.mono (o_l rfl) (o_l rfl)⟩
   rotate_left
   · show CHr Z o_EL s.vm s.heap T180.vm T180.heap
     rw [hh, e213]
     exact Cr209.trans (CHv.at X184 hZ (o_EW hw) Cr209.1)
   show Q_rmMk Z xv h0 n0 _ T180.heap _
   rw [e213]
   exact ⟨a113, t195, kb196, ([(nar .char ((xv &&& (255 : Int32)).toUInt32.toUInt16.toUInt32.toInt32))] : List Int32), rfl, N202, P211, E193, S212.2.1, S212.2.2.1, S212.2.2.2, ⟨o_l rfl, hp178⟩, trivial⟩
  ·
   have k15 : o_J p e below s₁ m 59 #[vI xv, vI (((xv.toUInt32 >>> ((16 : Int32) &&& 31).toUInt32).toInt32) &&& (3 : Int32)), vI ((xv &&& (255 : Int32)).toUInt32.toUInt16.toUInt32.toInt32), vI ((((xv.toUInt32 >>> ((8 : Int32) &&& 31).toUInt32).toInt32) &&& (255 : Int32)).toUInt32.toUInt16.toUInt32.toInt32)] [] B_ := fun t_ hh => k7 t_ (by
    refine XS.icmpYes X0.here hx rfl (pc0 := 41) (pc' := 59) rfl (hb hby o_h364) rfl (o_icT_ne c41) (by decide) (by decide) ?_
    exact hh)
   clear k7
   obtain ⟨T214, h215, X216, e217, E218, A219, D220, U222, st221⟩ := newO X0 hx hZ hown (wT hw 4 rfl) (wT hw 5 rfl) (wT hw 6 rfl) e0 (g := (mkF m 59 #[vI xv, vI (((xv.toUInt32 >>> ((16 : Int32) &&& 31).toUInt32).toInt32) &&& (3 : Int32)), vI ((xv &&& (255 : Int32)).toUInt32.toUInt16.toUInt32.toInt32), vI ((((xv.toUInt32 >>> ((8 : Int32) &&& 31).toUInt32).toInt32) &&& (255 : Int32)).toUInt32.toUInt16.toUInt32.toInt32)] [])) rfl (hb hby o_h375) (by decide) (by decide)
   obtain ⟨a223, g224⟩ : ∃ z, z = h0.size := ⟨_, rfl⟩
   rw [← g224] at A219 D220 U222 st221
   have H0225 : h0.size ≤ a223 := Nat.le_trans K0.1 (Nat.le_of_eq g224.symm)
   have G226 : n0 ≤ a223 := Nat.le_trans Z0 (Nat.le_of_eq g224.symm)
   have hk227 := Nat.le_trans hk0 E218.1
   have Sf228 := Safe.ext E218 Cr0.1 (Safe.new (x := a223) (Nat.le_of_eq g224.symm))
   have Z229 : n0 ≤ h215.size := Nat.le_trans Z0 E218.1
   have O230 := f0_.ext E218
   have P231 : Keep h0 h215 [] := K0.ext E218
   have Cr232 := Cr0.trans (CHr.ext E218 Cr0.1)
   have F233 : Fld Z h215 a223 oS "value" "[B" .null := D220 (Or.inr (wT hw 20 rfl)) (ty := .array .byte) (by decide)
   have F234 : Fld Z h215 a223 oS "coder" "B" (.int 0) := D220 (Or.inr (wT hw 21 rfl)) (ty := .byte) (by decide)
   have k16 : o_J p e below T214 m 62 #[vI xv, vI (((xv.toUInt32 >>> ((16 : Int32) &&& 31).toUInt32).toInt32) &&& (3 : Int32)), vI ((xv &&& (255 : Int32)).toUInt32.toUInt16.toUInt32.toInt32), vI ((((xv.toUInt32 >>> ((8 : Int32) &&& 31).toUInt32).toInt32) &&& (255 : Int32)).toUInt32.toUInt16.toUInt32.toInt32)] [.ref a223] B_ := fun t_ hh => k15 t_ (st221 t_ hh)
   clear k15 st221
   have k17 : o_J p e below T214 m 64 #[vI xv, vI (((xv.toUInt32 >>> ((16 : Int32) &&& 31).toUInt32).toInt32) &&& (3 : Int32)), vI ((xv &&& (255 : Int32)).toUInt32.toUInt16.toUInt32.toInt32), vI ((((xv.toUInt32 >>> ((8 : Int32) &&& 31).toUInt32).toInt32) &&& (255 : Int32)).toUInt32.toUInt16.toUInt32.toInt32)] [(.int 2), .ref a223, .ref a223] B_ := fun t_ hh => k16 t_ (by
    refine XS.dup X216.here hx rfl (hb hby o_h376) rfl rfl ?_
    refine XS.iconst X216.here hx rfl (hb hby o_h377) ?_
    exact hh)
   clear k16
   obtain ⟨T235, h236, kA237, X238, e239, E240, A241, st243⟩ := newP X216 hx hZ (wT hw 7 rfl) e217 (g := (mkF m 64 #[vI xv, vI (((xv.toUInt32 >>> ((16 : Int32) &&& 31).toUInt32).toInt32) &&& (3 : Int32)), vI ((xv &&& (255 : Int32)).toUInt32.toUInt16.toUInt32.toInt32), vI ((((xv.toUInt32 >>> ((8 : Int32) &&& 31).toUInt32).toInt32) &&& (255 : Int32)).toUInt32.toUInt16.toUInt32.toInt32)] [(.int 2), .ref a223, .ref a223])) rfl (hb hby o_h378) rfl (by decide) (cap := 2) (by decide) (by decide) (by decide) (by decide)
   obtain ⟨a244, g245⟩ : ∃ z, z = h215.size := ⟨_, rfl⟩
   rw [← g245] at A241 st243
   have H0246 : h0.size ≤ a244 := Nat.le_trans P231.1 (Nat.le_of_eq g245.symm)
   have G247 : n0 ≤ a244 := Nat.le_trans Z229 (Nat.le_of_eq g245.symm)
   have hk248 := Nat.le_trans hk227 E240.1
   have Sf249 := Safe.ext E240 Cr232.1 (Safe.new (x := a244) (Nat.le_of_eq g245.symm))
   have F250 := Exa.ext (h' := h236) E240 A219
   have F251 := Fld.ext (h' := h236) E240 F233
   have F252 := Fld.ext (h' := h236) E240 F234
   have Z253 : n0 ≤ h236.size := Nat.le_trans Z229 E240.1
   have O254 := O230.ext E240
   have P255 : Keep h0 h236 [] := P231.ext E240
   have Sf256 := Safe.ext E240 Cr232.1 Sf228
   have Cr257 := Cr232.trans (CHr.ext E240 Cr232.1)
   have V258 : Arv Z h236 a244 kA237 .char (2 : Int32) [(.int 0), (.int 0)] (.int 0) := Arv.pad (Arv.new A241 (by decide)) (pad_rep [] (.int 0) 2)
   have k18 : o_J p e below T235 m 66 #[vI xv, vI (((xv.toUInt32 >>> ((16 : Int32) &&& 31).toUInt32).toInt32) &&& (3 : Int32)), vI ((xv &&& (255 : Int32)).toUInt32.toUInt16.toUInt32.toInt32), vI ((((xv.toUInt32 >>> ((8 : Int32) &&& 31).toUInt32).toInt32) &&& (255 : Int32)).toUInt32.toUInt16.toUInt32.toInt32)] [.ref a244, .ref a223, .ref a223] B_ := fun t_ hh => k17 t_ (st243 t_ hh)
   clear k17 st243 X216 e217
   have k19 : o_J p e below T235 m 69 #[vI xv, vI (((xv.toUInt32 >>> ((16 : Int32) &&& 31).toUInt32).toInt32) &&& (3 : Int32)), vI ((xv &&& (255 : Int32)).toUInt32.toUInt16.toUInt32.toInt32), vI ((((xv.toUInt32 >>> ((8 : Int32) &&& 31).toUInt32).toInt32) &&& (255 : Int32)).toUInt32.toUInt16.toUInt32.toInt32)] [(.int ((xv &&& (255 : Int32)).toUInt32.toUInt16.toUInt32.toInt32)), (.int 0), .ref a244, .ref a244, .ref a223, .ref a223] B_ := fun t_ hh => k18 t_ (by
    refine XS.dup X238.here hx rfl (hb hby o_h379) rfl rfl ?_
    refine XS.iconst X238.here hx rfl (hb hby o_h380) ?_
    refine XS.iloadN X238.here hx rfl (hb hby o_h381) rfl ?_
    exact hh)
   clear k18
   obtain ⟨cl259, Ar260, q261, S262, Ng263, H264, Gf265⟩ := id V258
   have hin266 := inb_of (j := (0 : Int32)) S262 (by decide)
   obtain ⟨T267, h268, X269, e270, W271, st272⟩ := stC X238 hx hZ e239 Ar260 (j := (0 : Int32)) hin266 (g := (mkF m 69 #[vI xv, vI (((xv.toUInt32 >>> ((16 : Int32) &&& 31).toUInt32).toInt32) &&& (3 : Int32)), vI ((xv &&& (255 : Int32)).toUInt32.toUInt16.toUInt32.toInt32), vI ((((xv.toUInt32 >>> ((8 : Int32) &&& 31).toUInt32).toInt32) &&& (255 : Int32)).toUInt32.toUInt16.toUInt32.toInt32)] [(.int ((xv &&& (255 : Int32)).toUInt32.toUInt16.toUInt32.toInt32)), (.int 0), .ref a244, .ref a244, .ref a223, .ref a223])) rfl rfl (hb hby o_h382)
   have N273 := Fr.snoc X269 N0 G247
   have K274 : Keep h236 h268 [a244] := Keep.of_wr W271
   have V275 := Arv.set Ar260 q261 S262 Ng263 H264 Gf265 (v := (.int (nar .char ((xv &&& (255 : Int32)).toUInt32.toUInt16.toUInt32.toInt32)))) (fits_nar_char _) W271 0 rfl (o_lt rfl)
   have k20 : o_J p e below T267 m 70 #[vI xv, vI (((xv.toUInt32 >>> ((16 : Int32) &&& 31).toUInt32).toInt32) &&& (3 : Int32)), vI ((xv &&& (255 : Int32)).toUInt32.toUInt16.toUInt32.toInt32), vI ((((xv.toUInt32 >>> ((8 : Int32) &&& 31).toUInt32).toInt32) &&& (255 : Int32)).toUInt32.toUInt16.toUInt32.toInt32)] [.ref a244, .ref a223, .ref a223] B_ := fun t_ hh => k19 t_ (st272 t_ hh)
   clear k19 st272 X238 e239 cl259 Ar260 q261 S262 Ng263 H264 Gf265 hin266 W271 V258
   have k21 : o_J p e below T267 m 73 #[vI xv, vI (((xv.toUInt32 >>> ((16 : Int32) &&& 31).toUInt32).toInt32) &&& (3 : Int32)), vI ((xv &&& (255 : Int32)).toUInt32.toUInt16.toUInt32.toInt32), vI ((((xv.toUInt32 >>> ((8 : Int32) &&& 31).toUInt32).toInt32) &&& (255 : Int32)).toUInt32.toUInt16.toUInt32.toInt32)] [(.int ((((xv.toUInt32 >>> ((8 : Int32) &&& 31).toUInt32).toInt32) &&& (255 : Int32)).toUInt32.toUInt16.toUInt32.toInt32)), (.int 1), .ref a244, .ref a244, .ref a223, .ref a223] B_ := fun t_ hh => k20 t_ (by
    refine XS.dup X269.here hx rfl (hb hby o_h383) rfl rfl ?_
    refine XS.iconst X269.here hx rfl (hb hby o_h384) ?_
    refine XS.iloadN X269.here hx rfl (hb hby o_h385) rfl ?_
    exact hh)
   clear k20
   obtain ⟨cl276, Ar277, q278, S279, Ng280, H281, Gf282⟩ := id V275
   have hin283 := inb_of (j := (1 : Int32)) S279 (by decide)
   obtain ⟨T284, h285, X286, e287, W288, st289⟩ := stC X269 hx hZ e270 Ar277 (j := (1 : Int32)) hin283 (g := (mkF m 73 #[vI xv, vI (((xv.toUInt32 >>> ((16 : Int32) &&& 31).toUInt32).toInt32) &&& (3 : Int32)), vI ((xv &&& (255 : Int32)).toUInt32.toUInt16.toUInt32.toInt32), vI ((((xv.toUInt32 >>> ((8 : Int32) &&& 31).toUInt32).toInt32) &&& (255 : Int32)).toUInt32.toUInt16.toUInt32.toInt32)] [(.int ((((xv.toUInt32 >>> ((8 : Int32) &&& 31).toUInt32).toInt32) &&& (255 : Int32)).toUInt32.toUInt16.toUInt32.toInt32)), (.int 1), .ref a244, .ref a244, .ref a223, .ref a223])) rfl rfl (hb hby o_h386)
   have N290 := Fr.snoc X286 N273 G247
   have K291 : Keep h236 h285 [a244] := K274.wr W288 o_m0
   have V292 := Arv.set Ar277 q278 S279 Ng280 H281 Gf282 (v := (.int (nar .char ((((xv.toUInt32 >>> ((8 : Int32) &&& 31).toUInt32).toInt32) &&& (255 : Int32)).toUInt32.toUInt16.toUInt32.toInt32)))) (fits_nar_char _) W288 1 rfl (o_lt rfl)
   have k22 : o_J p e below T284 m 74 #[vI xv, vI (((xv.toUInt32 >>> ((16 : Int32) &&& 31).toUInt32).toInt32) &&& (3 : Int32)), vI ((xv &&& (255 : Int32)).toUInt32.toUInt16.toUInt32.toInt32), vI ((((xv.toUInt32 >>> ((8 : Int32) &&& 31).toUInt32).toInt32) &&& (255 : Int32)).toUInt32.toUInt16.toUInt32.toInt32)] [.ref a244, .ref a223, .ref a223] B_ := fun t_ hh => k21 t_ (st289 t_ hh)
   clear k21 st289 X269 e270 cl276 Ar277 q278 S279 Ng280 H281 Gf282 hin283 W288 K274 V275 N273
   have V293 : Arv Z h285 a244 kA237 .char (2 : Int32) [(.int (nar .char ((xv &&& (255 : Int32)).toUInt32.toUInt16.toUInt32.toInt32))), (.int (nar .char ((((xv.toUInt32 >>> ((8 : Int32) &&& 31).toUInt32).toInt32) &&& (255 : Int32)).toUInt32.toUInt16.toUInt32.toInt32)))] (.int 0) := V292
   have F294 := F250.keep K291
   have ne296 : a223 ≠ a244 := by rw [g245]; exact Nat.ne_of_lt A219.lt
   have F295 := F251.keep K291 (ninS ne296 nin0)
   have F297 := F252.keep K291 (ninS ne296 nin0)
   have Z298 : n0 ≤ h285.size := Nat.le_trans Z253 K291.1
   have hk299 := Nat.le_trans hk248 K291.1
   have Sf300 := Safe.keep K291 (allS Sf249 all0) Cr257.1 Sf256
   have Sf301 := Safe.keep K291 (allS Sf249 all0) Cr257.1 Sf249
   have Cr302 := Cr257.trans (CHr.keep K291 (allS Sf249 all0) Cr257.1)
   have O303 := O254.keep K291 (allS G247 all0)
   have P304 : Keep h0 h285 [] := P255.trans K291 (allS (P := fun x => x ∈ [] ∨ h0.size ≤ x) (Or.inr H0246) all0)
   have hp305 : ∀ c ∈ ([(nar .char ((xv &&& (255 : Int32)).toUInt32.toUInt16.toUInt32.toInt32)), (nar .char ((((xv.toUInt32 >>> ((8 : Int32) &&& 31).toUInt32).toInt32) &&& (255 : Int32)).toUInt32.toUInt16.toUInt32.toInt32))] : List Int32), o_b8 c := (List.forall_mem_cons.mpr ⟨(o_b8_nar (o_b8_mask _)), (List.forall_mem_cons.mpr ⟨(o_b8_nar (o_b8_mask _)), (fun _ q => nomatch q)⟩)⟩)
   have F306 : Arv Z h285 a244 kA237 .char (Int32.ofNat 2) (([(nar .char ((xv &&& (255 : Int32)).toUInt32.toUInt16.toUInt32.toInt32)), (nar .char ((((xv.toUInt32 >>> ((8 : Int32) &&& 31).toUInt32).toInt32) &&& (255 : Int32)).toUInt32.toUInt16.toUInt32.toInt32))] : List Int32).map Value.int) (.int 0) := V293
   obtain ⟨_, _, ⟨T307, L308, k_309, n_310⟩, -, X311, ⟨Lc312, hQ313, l_314, y_315, z_316⟩, st317⟩ := X286.specialBack hx (y := ⟨oS, "<init>", "([C)V"⟩) rfl hown (mvT hZ (wT hw 8 rfl)) (mvT hZ (wT hw 9 rfl)) (mvT hZ (wT hw 10 rfl)) (by decide) (StrChars.Road.backV (W := 1) hZ (fun d hd => hw d (o_sub_words d hd)) (kI := 4) (wT hw 5 rfl) (cs := ([(nar .char ((xv &&& (255 : Int32)).toUInt32.toUInt16.toUInt32.toInt32)), (nar .char ((((xv.toUInt32 >>> ((8 : Int32) &&& 31).toUInt32).toInt32) &&& (255 : Int32)).toUInt32.toUInt16.toUInt32.toInt32))] : List Int32)) (n0 := n0) G226 Z298 F294 F295 F297 F306 (Sta.ext O303.2 sC) hc rfl rfl (o_lt rfl) (o_l rfl) (fun c hc => (hp305 c hc)) rfl (by decide) (by decide)) (g := (mkF m 74 #[vI xv, vI (((xv.toUInt32 >>> ((16 : Int32) &&& 31).toUInt32).toInt32) &&& (3 : Int32)), vI ((xv &&& (255 : Int32)).toUInt32.toUInt16.toUInt32.toInt32), vI ((((xv.toUInt32 >>> ((8 : Int32) &&& 31).toUInt32).toInt32) &&& (255 : Int32)).toUInt32.toUInt16.toUInt32.toInt32)] [.ref a244, .ref a223, .ref a223])) rfl (by rw [hml]; rfl) (Steps.refl _) (a := a223) (argsL := [.ref a244]) (rest := [.ref a223]) (lenOf o_h360 rfl) rfl (o_w0 rfl) (hb hby o_h387) (fun _ _ => ⟨rfl, e287, o_l rfl, o_l rfl⟩)
   dsimp only [Pt.U, Pt.locs, Pt.cells, Pt.slots] at X311 l_314 y_315 z_316 st317 hQ313
   subst l_314 y_315 z_316
   obtain ⟨rfl, N318, K319, E320, F321, t322, kb323, G324, G325, G326, F327, F328⟩ := hQ313
   have N329 := Fr.app N290 N318
   have F330 := F294.keep K319
   have F331 := F306.keep K319 (ninS (Ne.symm ne296) nin0)
   have Z332 : n0 ≤ T307.heap.size := Nat.le_trans Z298 K319.1
   have hk333 := Nat.le_trans hk299 K319.1
   have Sf334 := Safe.keep K319 (allS Sf300 all0) Cr302.1 Sf300
   have Sf335 := Safe.keep K319 (allS Sf300 all0) Cr302.1 Sf301
   have Cr336 := Cr302.trans (CHr.keep K319 (allS Sf300 all0) Cr302.1)
   have O337 := O303.keep K319 (allS G226 all0)
   have P338 : Keep h0 T307.heap [] := P304.trans K319 (allS (P := fun x => x ∈ [] ∨ h0.size ≤ x) (Or.inr H0225) all0)
   have S339 : o_Str Z T307.heap a223 t322 kb323 ([(nar .char ((xv &&& (255 : Int32)).toUInt32.toUInt16.toUInt32.toInt32)), (nar .char ((((xv.toUInt32 >>> ((8 : Int32) &&& 31).toUInt32).toInt32) &&& (255 : Int32)).toUInt32.toUInt16.toUInt32.toInt32))] : List Int32) := ⟨E320, F327, F321, F328⟩
   have e340 : T307.heap = T307.heap := rfl
   have k23 : o_J p e below T307 m 77 #[vI xv, vI (((xv.toUInt32 >>> ((16 : Int32) &&& 31).toUInt32).toInt32) &&& (3 : Int32)), vI ((xv &&& (255 : Int32)).toUInt32.toUInt16.toUInt32.toInt32), vI ((((xv.toUInt32 >>> ((8 : Int32) &&& 31).toUInt32).toInt32) &&& (255 : Int32)).toUInt32.toUInt16.toUInt32.toInt32)] [.ref a223] B_ := fun t_ hh => k22 t_ (st317.trans hh)
   clear k22 st317 X286 e287
   obtain ⟨fs, hr, hrun, hended, hEnd⟩ := X311.leaveW hS0 (by rw [e340]; exact hk333) (v := some (.ref a223)) (fun h => by rw [Bd.returns] at h; cases h)
   refine ⟨_, _, (o_from hB_ (k23 _ (retOut X311 hx (t := .object oS) Bd.returns rfl (Or.inr (Or.inr (Or.inr (Or.inr ⟨rfl, rfl, rfl⟩)))) (hb hby o_h388) hr))), hrun, hended, _, _, rfl, ?_, ?_, hEnd.1, hEnd.2.1, hEnd.2.2.1, hEnd.2.2.2.mono (o_l rfl) (o_l rfl)⟩
   rotate_left
   · show CHr Z o_EL s.vm s.heap T307.vm T307.heap
     rw [hh, e340]
     exact Cr336.trans (CHv.at X311 hZ (o_EW hw) Cr336.1)
   show Q_rmMk Z xv h0 n0 _ T307.heap _
   rw [e340]
   exact ⟨a223, t322, kb323, ([(nar .char ((xv &&& (255 : Int32)).toUInt32.toUInt16.toUInt32.toInt32)), (nar .char ((((xv.toUInt32 >>> ((8 : Int32) &&& 31).toUInt32).toInt32) &&& (255 : Int32)).toUInt32.toUInt16.toUInt32.toInt32))] : List Int32), rfl, N329, P338, E320, S339.2.1, S339.2.2.1, S339.2.2.2, ⟨o_l rfl, hp305⟩, trivial⟩
def Q_rmNn (Z : State) (ra : Addr) (sa : Addr) (h0 : Heap) (n0 : Nat) (v : Option Value) (h : Heap) (L : List Loc) : Prop := v = some (.ref ra) ∧ Fr n0 L ∧ h = h0
theorem o_h389 : plainName "java/util/Objects" = true := by first | (simp [plainName, overriddenIn]; done) | decide +kernel
theorem o_h390 : decode jdk_31_method_11_code 0 = .ok (.aload_n 0, 1) := by decide +kernel
theorem o_h391 : decode jdk_31_method_11_code 1 = .ok (.ifnonnull 12, 3) := by decide +kernel
theorem o_h392 : decode jdk_31_method_11_code 13 = .ok (.aload_n 0, 1) := by decide +kernel
theorem o_h393 : decode jdk_31_method_11_code 14 = .ok (.areturn, 1) := by decide +kernel
theorem rmNn (l : Launch) (Z : State) (a0 : Array Value) (hw : ∀ d ∈ tables_1, d.before a0 Z = true) (ws : List Jvm.Cond) (ra : Addr) (sa : Addr) (h0 : Heap) (n0 : Nat) (Z0 : n0 ≤ h0.size)   :
    o_Met l (⟨"java/util/Objects", "requireNonNull", "(Ljava/lang/Object;Ljava/lang/String;)Ljava/lang/Object;"⟩ : MethodName) jdk_31_method_11_code 2 (some (.object "java/lang/Object")) ws (rO 0 0 0 0) #[.ref ra, .ref sa] Z h0 (Q_rmNn Z ra sa h0 n0) := by
 refine MetFree.of_bodySF (plainFor_of_name o_h389) hisR ?_
 intro p e s m args below meth c s₁ Bd hml0 hP hK
 obtain ⟨rfl, hZ, hh⟩ := hP
 have hx := Bd.exec
 have hby := Bd.bytes
 have hml : c.maxLocals = 2 := hml0
 have hown : s.vm.findClass "java/util/Objects" = some m.cls := findClass_of_methodNamed Bd.named
 have hnm := (name_of_methodNamed Bd.named Bd.method).1
 have X0 : Stand p l e (rO 0 0 0 0) s m #[.ref ra, .ref sa] below meth c s₁ [] 0 0 := Stand.of_body Bd
 have e0 : s₁.heap = h0 := by rw [← hh, Bd.state]; rfl
 have N0 := Fr.nil n0
 obtain ⟨B_, hB_⟩ : ∃ z, z = s₁.setTop (entryFrame m #[.ref ra, .ref sa] 2) := ⟨_, rfl⟩
 have k0 : o_K p e below (s₁.setTop (mkF m 0 #[.val (.ref ra), .val (.ref sa)] [])) B_ := by rw [hB_]; exact fun t k => castTop (by clear k; first | (simp [entryFrame, mkF, argsToLocals, Value.category, maxLocals]; done) | rfl) k
 have k1 : o_J p e below s₁ m 14 #[vR ra, vR sa] [.ref ra] B_ := fun t_ hh => k0 t_ (by
  refine XS.aloadN X0.here hx rfl (hb hby o_h390) rfl rfl ?_
  refine XS.ifnonnullYes X0.here hx rfl (pc0 := 1) (pc' := 13) rfl (hb hby o_h391) rfl (by decide) (by decide) ?_
  refine XS.aloadN X0.here hx rfl (hb hby o_h392) rfl rfl ?_
  exact hh)
 obtain ⟨fs, hr, hrun, hended, hW, hsame⟩ := X0.leave (v := some (.ref ra)) (fun h => by rw [Bd.returns] at h; cases h)
 refine ⟨_, _, (o_from hB_ (k1 _ (retOut X0 hx (t := .object "java/lang/Object") Bd.returns rfl (Or.inr (Or.inr (Or.inr (Or.inr ⟨rfl, rfl, rfl⟩)))) (hb hby o_h393) hr))), hrun, hended, _, _, rfl, ?_, ⟨_, rfl⟩, hW, hsame.mono (o_l rfl) (o_l rfl)⟩
 show Q_rmNn Z ra sa h0 n0 _ s₁.heap _
 rw [e0]
 exact ⟨rfl, N0, rfl⟩
def Q_rmRk (Z : State) (a1 : Addr) (a2 : Addr) (h0 : Heap) (n0 : Nat) (v : Option Value) (h : Heap) (L : List Loc) : Prop := v = none ∧ Fr n0 L ∧ Keep h0 h [] ∧ True
theorem o_h394 : plainName oL = true := by first | (simp [plainName, overriddenIn]; done) | decide +kernel
theorem o_h395 : decode prog_7_method_5_code 0 = .ok (.aload_n 0, 1) := by decide +kernel
theorem o_h396 : decode prog_7_method_5_code 1 = .ok (.ldc 41, 2) := by decide +kernel
theorem o_h397 : decode prog_7_method_5_code 3 = .ok (.invokestatic 43, 3) := by decide +kernel
theorem o_h398 : parseMethodDescriptor "(Ljava/lang/Object;Ljava/lang/String;)Ljava/lang/Object;" = some ⟨[.object "java/lang/Object", .object oS], some (.object "java/lang/Object")⟩ := by decide +kernel
theorem o_h399 : decode prog_7_method_5_code 6 = .ok (.pop, 1) := by decide +kernel
theorem o_h400 : decode prog_7_method_5_code 7 = .ok (.aload_n 1, 1) := by decide +kernel
theorem o_h401 : decode prog_7_method_5_code 8 = .ok (.ldc 49, 2) := by decide +kernel
theorem o_h402 : decode prog_7_method_5_code 10 = .ok (.invokestatic 43, 3) := by decide +kernel
theorem o_h403 : decode prog_7_method_5_code 13 = .ok (.pop, 1) := by decide +kernel
theorem o_h404 : decode prog_7_method_5_code 14 = .ok (.return_, 1) := by decide +kernel
theorem rmRk (l : Launch) (Z : State) (a0 : Array Value) (hw : ∀ d ∈ tables_1, d.before a0 Z = true) (ws : List Jvm.Cond) (a1 : Addr) (a2 : Addr) (h0 : Heap) (n0 : Nat) (Z0 : n0 ≤ h0.size)   :
    MetFree l (⟨oL, "requireKey", "(Ljava/lang/String;Ljava/lang/String;)V"⟩ : MethodName) (head1 (Jvm.Cond.code (⟨oL, "requireKey", "(Ljava/lang/String;Ljava/lang/String;)V"⟩ : MethodName) prog_7_method_5_code 2 none :: ws) (rO 1 4 168 13)) (fun ar_ U => ar_ = #[.ref a1, .ref a2] ∧ Z.Warmed39 U.vm ∧ U.heap = h0 ∧ CHv Z o_EL U.vm h0) (fun _ _ _ _ _ => True) (fun _ U o U' => ∃ v L, o = .returned v ∧ Q_rmRk Z a1 a2 h0 n0 v U'.heap L ∧ CHr Z o_EL U.vm U.heap U'.vm U'.heap ∧ ReturnedEndW U o U' L (rO 1 4 168 13).cells (rO 1 4 168 13).slots) := by
 refine MetFree.of_bodySF (plainFor_of_name o_h394) hisR ?_
 intro p e s m args below meth c s₁ Bd hml0 hP hK
 obtain ⟨rfl, hZ, hh, hCH⟩ := hP
 have hx := Bd.exec
 have hby := Bd.bytes
 have hml : c.maxLocals = 2 := hml0
 have hown : s.vm.findClass oL = some m.cls := findClass_of_methodNamed Bd.named
 have hnm := (name_of_methodNamed Bd.named Bd.method).1
 have X0 : Stand p l e (rO 1 4 168 13) (s.setVm s.vm) m #[.ref a1, .ref a2] below meth c s₁ [] 0 0 := Stand.of_body Bd
 have hS0 : s.Since s.vm 0 := (State.WarmedH.refl s).since 0
 have hk0 : 0 ≤ h0.size := Nat.zero_le _
 have hZ : Z.Warmed39 (s.setVm s.vm).vm := hZ
 have hown : (s.setVm s.vm).vm.findClass oL = some m.cls := hown
 have Cr0 : CHr Z o_EL s.vm h0 s.vm h0 := CHr.refl hCH
 have e0 : s₁.heap = h0 := by rw [← hh, Bd.state]; rfl
 have N0 := Fr.nil n0
 obtain ⟨B_, hB_⟩ : ∃ z, z = s₁.setTop (entryFrame m #[.ref a1, .ref a2] 2) := ⟨_, rfl⟩
 have k0 : o_K p e below (s₁.setTop (mkF m 0 #[.val (.ref a1), .val (.ref a2)] [])) B_ := by rw [hB_]; exact fun t k => castTop (by clear k; first | (simp [entryFrame, mkF, argsToLocals, Value.category, maxLocals]; done) | rfl) k
 have K0 : Keep h0 h0 [] := Keep.refl _ _
 have k1 : o_J p e below s₁ m 1 #[vR a1, vR a2] [.ref a1] B_ := fun t_ hh => k0 t_ (by
  refine XS.aloadN X0.here hx rfl (hb hby o_h395) rfl rfl ?_
  exact hh)
 obtain ⟨a21, T22, h23, k_24, b25, kb26, X27, e28, E29, hS30, hk31, hZ32, hown33, E34, F35, F36, F37, l38, l39, C40, Lt41, ne42, st43⟩ := ldcCH X0 hx hZ hown (wT hw 35 rfl) (o_strAtoms hw) e0 hS0 hk0 (o_EW hw) (List.mem_of_getElem? (i := 0) rfl) Cr0.1 (vs := [(.int 116), (.int 121), (.int 112), (.int 101), (.int 32), (.int 109), (.int 117), (.int 115), (.int 116), (.int 32), (.int 110), (.int 111), (.int 116), (.int 32), (.int 98), (.int 101), (.int 32), (.int 110), (.int 117), (.int 108), (.int 108)]) (z := (21 : Int32)) ⟨by decide, rfl⟩ (by decide) rfl (g := (mkF m 1 #[vR a1, vR a2] [.ref a1])) rfl (hb hby o_h396) (n := 84) (by decide) (by decide) (by decide) (by decide)
 have Z44 : n0 ≤ h23.size := Nat.le_trans Z0 E29.1
 have P45 : Keep h0 h23 [] := K0.ext E29
 have Cr46 := Cr0.trans C40
 have k2 : o_J p e below T22 m 3 #[vR a1, vR a2] [.ref a21, .ref a1] B_ := fun t_ hh => k1 t_ (st43 t_ hh)
 clear k1 st43
 obtain ⟨_, _, ⟨T47, L48, k_49, n_50⟩, -, X51, ⟨Lc52, hQ53, l_54, y_55, z_56⟩, st57⟩ := Jvm.LawKit.callS X27 hx (y := ⟨"java/util/Objects", "requireNonNull", "(Ljava/lang/Object;Ljava/lang/String;)Ljava/lang/Object;"⟩) hown33 (mvT hZ32 (wT hw 36 rfl)) (mvT hZ32 (wT hw 37 rfl)) (mvT hZ32 (wT hw 38 rfl)) (mvT hZ32 (wT hw 39 rfl)) (by decide) (backOf (W := 0) (rmNn l Z a0 hw [] a1 a21 h23 n0 Z44  ) hZ32 (wT hw 39 rfl) (wT hw 38 rfl) (by decide) (by decide)) (g := (mkF m 3 #[vR a1, vR a2] [.ref a21, .ref a1])) rfl (by rw [hml]; rfl) (argsL := [.ref a1, .ref a21]) (rest := []) (lenOf o_h398 rfl) rfl (o_w0 rfl) (hb hby o_h397) (fun _ _ => ⟨rfl, e28, o_l rfl, o_l rfl⟩)
 dsimp only [Pt.U, Pt.locs, Pt.cells, Pt.slots] at X51 l_54 y_55 z_56 st57 hQ53
 subst l_54 y_55 z_56
 obtain ⟨rfl, N58, e59⟩ := hQ53
 have N60 := Fr.app N0 N58
 have k3 : o_J p e below T47 m 6 #[vR a1, vR a2] [.ref a1] B_ := fun t_ hh => k2 t_ (st57 t_ hh)
 clear k2 st57 X27 e28
 have k4 : o_J p e below T47 m 8 #[vR a1, vR a2] [.ref a2] B_ := fun t_ hh => k3 t_ (by
  refine XS.pop X51.here hx rfl (hb hby o_h399) rfl rfl ?_
  refine XS.aloadN X51.here hx rfl (hb hby o_h400) rfl rfl ?_
  exact hh)
 clear k3
 obtain ⟨a61, T62, h63, k_64, b65, kb66, X67, e68, E69, hS70, hk71, hZ72, hown73, E74, F75, F76, F77, l78, l79, C80, Lt81, ne82, st83⟩ := ldcCH X51 hx hZ32 hown33 (wT hw 40 rfl) (o_strAtoms hw) e59 hS30 hk31 (o_EW hw) (List.mem_of_getElem? (i := 1) rfl) Cr46.1 (vs := [(.int 105), (.int 100), (.int 32), (.int 109), (.int 117), (.int 115), (.int 116), (.int 32), (.int 110), (.int 111), (.int 116), (.int 32), (.int 98), (.int 101), (.int 32), (.int 110), (.int 117), (.int 108), (.int 108)]) (z := (19 : Int32)) ⟨by decide, rfl⟩ (by decide) rfl (g := (mkF m 8 #[vR a1, vR a2] [.ref a2])) rfl (hb hby o_h401) (n := 76) (by decide) (by decide) (by decide) (by decide)
 have F84 := F37.ext E69
 have F85 := Exa.ext (h' := h63) E69 E34
 have F86 := Fld.ext (h' := h63) E69 F36
 have F87 := Fld.ext (h' := h63) E69 F35
 have Z88 : n0 ≤ h63.size := Nat.le_trans Z44 E69.1
 have P89 : Keep h0 h63 [] := P45.ext E69
 have Cr90 := Cr46.trans C80
 have k5 : o_J p e below T62 m 10 #[vR a1, vR a2] [.ref a61, .ref a2] B_ := fun t_ hh => k4 t_ (st83 t_ hh)
 clear k4 st83 X51 e59
 obtain ⟨_, _, ⟨T91, L92, k_93, n_94⟩, -, X95, ⟨Lc96, hQ97, l_98, y_99, z_100⟩, st101⟩ := Jvm.LawKit.callS X67 hx (y := ⟨"java/util/Objects", "requireNonNull", "(Ljava/lang/Object;Ljava/lang/String;)Ljava/lang/Object;"⟩) hown73 (mvT hZ72 (wT hw 36 rfl)) (mvT hZ72 (wT hw 37 rfl)) (mvT hZ72 (wT hw 38 rfl)) (mvT hZ72 (wT hw 39 rfl)) (by decide) (backOf (W := 0) (rmNn l Z a0 hw [] a2 a61 h63 n0 Z88  ) hZ72 (wT hw 39 rfl) (wT hw 38 rfl) (by decide) (by decide)) (g := (mkF m 10 #[vR a1, vR a2] [.ref a61, .ref a2])) rfl (by rw [hml]; rfl) (argsL := [.ref a2, .ref a61]) (rest := []) (lenOf o_h398 rfl) rfl (o_w0 rfl) (hb hby o_h402) (fun _ _ => ⟨rfl, e68, o_l rfl, o_l rfl⟩)
 dsimp only [Pt.U, Pt.locs, Pt.cells, Pt.slots] at X95 l_98 y_99 z_100 st101 hQ97
 subst l_98 y_99 z_100
 obtain ⟨rfl, N102, e103⟩ := hQ97
 have N104 := Fr.app N60 N102
 have k6 : o_J p e below T91 m 13 #[vR a1, vR a2] [.ref a2] B_ := fun t_ hh => k5 t_ (st101 t_ hh)
 clear k5 st101 X67 e68
 have k7 : o_J p e below T91 m 14 #[vR a1, vR a2] [] B_ := fun t_ hh => k6 t_ (by
  refine XS.pop X95.here hx rfl (hb hby o_h403) rfl rfl ?_
  exact hh)
 clear k6
 obtain ⟨fs, hr, hrun, hended, hEnd⟩ := X95.leaveW hS70 (by rw [e103]; exact hk71) (v := none) (fun _ => rfl)
 refine ⟨_, _, (o_from hB_ (k7 _ (X95.returnOut hx Bd.returns (hb hby o_h404) hr))), hrun, hended, _, _, rfl, ?_, ?_, hEnd.1, hEnd.2.1, hEnd.2.2.1, hEnd.2.2.2.mono (o_l rfl) (o_l rfl)⟩
 rotate_left
 · show CHr Z o_EL s.vm s.heap T91.vm T91.heap
   rw [hh, e103]
   exact Cr90.trans (CHv.at X95 hZ72 (o_EW hw) Cr90.1)
 show Q_rmRk Z a1 a2 h0 n0 _ T91.heap _
 rw [e103]
 exact ⟨rfl, N104, P89, trivial⟩
def Q_rmAg (Z : State) (a1 : Addr) (u1 : Addr) (k1 : ClassId) (c1 : List Int32) (a2 : Addr) (u2 : Addr) (k2 : ClassId) (c2 : List Int32) (h0 : Heap) (n0 : Nat) (v : Option Value) (h : Heap) (L : List Loc) : Prop := ∃ r : Addr, ∃ tr : Addr, ∃ kr : ClassId, ∃ ms : List Int32, v = some (.ref r) ∧ Fr n0 L ∧ Keep h0 h [] ∧ Exa Z h r oS ∧ Fld Z h r oS "value" "[B" (.ref tr) ∧ Fld Z h r oS "coder" "B" (.int (0 : Int32)) ∧ Arv Z h tr kr .byte (Int32.ofNat (List.length ms)) (o_by ms) (.int (0 : Int32)) ∧ ms = (((o_lit1 ++ c1) ++ o_lit2) ++ c2) ∧ h0.size ≤ r ∧ h0.size ≤ tr ∧ True
theorem o_h405 : decode prog_7_method_6_code 0 = .ok (.new 20, 3) := by decide +kernel
theorem o_h406 : decode prog_7_method_6_code 3 = .ok (.dup, 1) := by decide +kernel
theorem o_h407 : decode prog_7_method_6_code 4 = .ok (.invokespecial 22, 3) := by decide +kernel
theorem o_h408 : parseMethodDescriptor "()V" = some ⟨[], none⟩ := by decide +kernel
theorem o_h409 : decode prog_7_method_6_code 7 = .ok (.ldc 51, 2) := by decide +kernel
theorem o_h410 : decode prog_7_method_6_code 9 = .ok (.invokevirtual 25, 3) := by decide +kernel
theorem o_h411 : parseMethodDescriptor "(Ljava/lang/String;)Ljava/lang/StringBuilder;" = some ⟨[.object oS], some (.object oB)⟩ := by decide +kernel
theorem o_h412 : decode prog_7_method_6_code 12 = .ok (.aload_n 0, 1) := by decide +kernel
theorem o_h413 : decode prog_7_method_6_code 13 = .ok (.invokevirtual 25, 3) := by decide +kernel
theorem o_h414 : decode prog_7_method_6_code 16 = .ok (.ldc 53, 2) := by decide +kernel
theorem o_h415 : decode prog_7_method_6_code 18 = .ok (.invokevirtual 25, 3) := by decide +kernel
theorem o_h416 : decode prog_7_method_6_code 21 = .ok (.aload_n 1, 1) := by decide +kernel
theorem o_h417 : decode prog_7_method_6_code 22 = .ok (.invokevirtual 25, 3) := by decide +kernel
theorem o_h418 : decode prog_7_method_6_code 25 = .ok (.invokevirtual 37, 3) := by decide +kernel
theorem o_h419 : parseMethodDescriptor "()Ljava/lang/String;" = some ⟨[], some (.object oS)⟩ := by decide +kernel
theorem o_h420 : decode prog_7_method_6_code 28 = .ok (.areturn, 1) := by decide +kernel
theorem rmAg (l : Launch) (Z : State) (a0 : Array Value) (hw : ∀ d ∈ tables_1, d.before a0 Z = true) (ws : List Jvm.Cond) (a1 : Addr) (u1 : Addr) (k1 : ClassId) (c1 : List Int32) (a2 : Addr) (u2 : Addr) (k2 : ClassId) (c2 : List Int32) (h0 : Heap) (n0 : Nat) (Z0 : n0 ≤ h0.size) (f0_ : Exa Z h0 a1 oS) (f1_ : Fld Z h0 a1 oS "value" "[B" (.ref u1)) (f2_ : Fld Z h0 a1 oS "coder" "B" (.int (0 : Int32))) (f3_ : Arv Z h0 u1 k1 .byte (Int32.ofNat (List.length c1)) (o_by c1) (.int (0 : Int32))) (hc1 : List.length c1 ≤ 2) (f5_ : Exa Z h0 a2 oS) (f6_ : Fld Z h0 a2 oS "value" "[B" (.ref u2)) (f7_ : Fld Z h0 a2 oS "coder" "B" (.int (0 : Int32))) (f8_ : Arv Z h0 u2 k2 .byte (Int32.ofNat (List.length c2)) (o_by c2) (.int (0 : Int32))) (hc2 : List.length c2 ≤ 2) (f10_ : Old Z n0 h0) (ci : Int32) (sC : Sta Z Z.heap oS "COMPACT_STRINGS" "Z" (.int ci)) (hc : ¬ ci = 0) :
    MetFree l (⟨oL, "aggregate", "(Ljava/lang/String;Ljava/lang/String;)Ljava/lang/String;"⟩ : MethodName) (head1 (Jvm.Cond.code (⟨oL, "aggregate", "(Ljava/lang/String;Ljava/lang/String;)Ljava/lang/String;"⟩ : MethodName) prog_7_method_6_code 2 (some (.object oS)) :: ws) (rO 6 12 956 91)) (fun ar_ U => ar_ = #[.ref a1, .ref a2] ∧ Z.Warmed39 U.vm ∧ U.heap = h0 ∧ CHv Z o_EL U.vm h0) (fun _ _ _ _ _ => True) (fun _ U o U' => ∃ v L, o = .returned v ∧ Q_rmAg Z a1 u1 k1 c1 a2 u2 k2 c2 h0 n0 v U'.heap L ∧ CHr Z o_EL U.vm U.heap U'.vm U'.heap ∧ ReturnedEndW U o U' L (rO 6 12 956 91).cells (rO 6 12 956 91).slots) := by
 refine MetFree.of_bodySF (plainFor_of_name o_h394) hisR ?_
 intro p e s m args below meth c s₁ Bd hml0 hP hK
 obtain ⟨rfl, hZ, hh, hCH⟩ := hP
 have hx := Bd.exec
 have hby := Bd.bytes
 have hml : c.maxLocals = 2 := hml0
 have hown : s.vm.findClass oL = some m.cls := findClass_of_methodNamed Bd.named
 have hnm := (name_of_methodNamed Bd.named Bd.method).1
 have X0 : Stand p l e (rO 6 12 956 91) (s.setVm s.vm) m #[.ref a1, .ref a2] below meth c s₁ [] 0 0 := Stand.of_body Bd
 have hS0 : s.Since s.vm 0 := (State.WarmedH.refl s).since 0
 have hk0 : 0 ≤ h0.size := Nat.zero_le _
 have hZ : Z.Warmed39 (s.setVm s.vm).vm := hZ
 have hown : (s.setVm s.vm).vm.findClass oL = some m.cls := hown
 have Cr0 : CHr Z o_EL s.vm h0 s.vm h0 := CHr.refl hCH
 have e0 : s₁.heap = h0 := by rw [← hh, Bd.state]; rfl
 have N0 := Fr.nil n0
 obtain ⟨B_, hB_⟩ : ∃ z, z = s₁.setTop (entryFrame m #[.ref a1, .ref a2] 2) := ⟨_, rfl⟩
 have k0 : o_K p e below (s₁.setTop (mkF m 0 #[.val (.ref a1), .val (.ref a2)] [])) B_ := by rw [hB_]; exact fun t k => castTop (by clear k; first | (simp [entryFrame, mkF, argsToLocals, Value.category, maxLocals]; done) | rfl) k
 have K0 : Keep h0 h0 [] := Keep.refl _ _
 obtain ⟨T21, h22, X23, e24, E25, A26, D27, U29, st28⟩ := newO X0 hx hZ hown (wT hw 63 rfl) (wT hw 42 rfl) (wT hw 43 rfl) e0 (g := (mkF m 0 #[vR a1, vR a2] [])) rfl (hb hby o_h405) (by decide) (by decide)
 obtain ⟨a30, g31⟩ : ∃ z, z = h0.size := ⟨_, rfl⟩
 rw [← g31] at A26 D27 U29 st28
 have H032 : h0.size ≤ a30 := Nat.le_trans K0.1 (Nat.le_of_eq g31.symm)
 have G33 : n0 ≤ a30 := Nat.le_trans Z0 (Nat.le_of_eq g31.symm)
 have hk34 := Nat.le_trans hk0 E25.1
 have Sf35 := Safe.ext E25 Cr0.1 (Safe.new (x := a30) (Nat.le_of_eq g31.symm))
 have F36 := Exa.ext (h' := h22) E25 f0_
 have F37 := Fld.ext (h' := h22) E25 f1_
 have F38 := Fld.ext (h' := h22) E25 f2_
 have F39 := f3_.ext E25
 have F40 := Exa.ext (h' := h22) E25 f5_
 have F41 := Fld.ext (h' := h22) E25 f6_
 have F42 := Fld.ext (h' := h22) E25 f7_
 have F43 := f8_.ext E25
 have Z44 : n0 ≤ h22.size := Nat.le_trans Z0 E25.1
 have O45 := f10_.ext E25
 have P46 : Keep h0 h22 [] := K0.ext E25
 have Cr47 := Cr0.trans (CHr.ext E25 Cr0.1)
 have F48 : Fld Z h22 a30 oA "value" "[B" .null := D27 (Or.inl (wT hw 56 rfl)) (ty := .array .byte) (by decide)
 have F49 : Fld Z h22 a30 oA "coder" "B" (.int 0) := D27 (Or.inl (wT hw 58 rfl)) (ty := .byte) (by decide)
 have F50 : Fld Z h22 a30 oA "count" "I" (.int 0) := D27 (Or.inl (wT hw 88 rfl)) (ty := .int) (by decide)
 have k1 : o_J p e below T21 m 3 #[vR a1, vR a2] [.ref a30] B_ := fun t_ hh => k0 t_ (st28 t_ hh)
 clear st28
 have k2 : o_J p e below T21 m 4 #[vR a1, vR a2] [.ref a30, .ref a30] B_ := fun t_ hh => k1 t_ (by
  refine XS.dup X23.here hx rfl (hb hby o_h406) rfl rfl ?_
  exact hh)
 clear k1
 obtain ⟨_, _, ⟨T51, L52, k_53, n_54⟩, -, X55, ⟨Lc56, hQ57, l_58, y_59, z_60⟩, st61⟩ := X23.specialBack hx (y := ⟨oB, "<init>", "()V"⟩) rfl hown (mvT hZ (wT hw 64 rfl)) (mvT hZ (wT hw 45 rfl)) (mvT hZ (wT hw 46 rfl)) (by decide) (backOf (W := 1) (rmSi l Z a0 hw [] a30 h22 n0 Z44 A26 F48 F49 F50 G33 O45 ci sC hc) hZ (wT hw 46 rfl) (wT hw 43 rfl) (by decide) (by decide)) (g := (mkF m 4 #[vR a1, vR a2] [.ref a30, .ref a30])) rfl (by rw [hml]; rfl) (Steps.refl _) (a := a30) (argsL := []) (rest := [.ref a30]) (lenOf o_h408 rfl) rfl (o_w0 rfl) (hb hby o_h407) (fun _ _ => ⟨rfl, e24, o_l rfl, o_l rfl⟩)
 dsimp only [Pt.U, Pt.locs, Pt.cells, Pt.slots] at X55 l_58 y_59 z_60 st61 hQ57
 subst l_58 y_59 z_60
 obtain ⟨t263, k264, rfl, N62, K73, F65, F66, F67, F68, F69, F70, F71, F72, -⟩ := hQ57
 have N74 := Fr.app N0 N62
 have H075 : h0.size ≤ t263 := Nat.le_trans P46.1 F72
 have Sf76 := o_safeNew Cr47.1 F72
 have F77 := F36.keep K73
 have ne79 : a1 ≠ a30 := by rw [g31]; exact Nat.ne_of_lt f0_.lt
 have F78 := F37.keep K73 (ninS ne79 nin0)
 have F80 := F38.keep K73 (ninS ne79 nin0)
 have ne82 : u1 ≠ a30 := by rw [g31]; exact Nat.ne_of_lt f3_.lt
 have F81 := F39.keep K73 (ninS ne82 nin0)
 have F83 := F40.keep K73
 have ne85 : a2 ≠ a30 := by rw [g31]; exact Nat.ne_of_lt f5_.lt
 have F84 := F41.keep K73 (ninS ne85 nin0)
 have F86 := F42.keep K73 (ninS ne85 nin0)
 have ne88 : u2 ≠ a30 := by rw [g31]; exact Nat.ne_of_lt f8_.lt
 have F87 := F43.keep K73 (ninS ne88 nin0)
 have F89 := A26.keep K73
 have Z90 : n0 ≤ T51.heap.size := Nat.le_trans Z44 K73.1
 have hk91 := Nat.le_trans hk34 K73.1
 have Sf92 := Safe.keep K73 (allS Sf35 all0) Cr47.1 Sf35
 have Sf93 := Safe.keep K73 (allS Sf35 all0) Cr47.1 Sf76
 have Cr94 := Cr47.trans (CHr.keep K73 (allS Sf35 all0) Cr47.1)
 have O95 := O45.keep K73 (allS G33 all0)
 have P96 : Keep h0 T51.heap [] := P46.trans K73 (allS (P := fun x => x ∈ [] ∨ h0.size ≤ x) (Or.inr H032) all0)
 have e97 : T51.heap = T51.heap := rfl
 have k3 : o_J p e below T51 m 7 #[vR a1, vR a2] [.ref a30] B_ := fun t_ hh => k2 t_ (st61.trans hh)
 clear k2 st61 X23 e24
 obtain ⟨a98, T99, h100, k_101, b102, kb103, X104, e105, E106, hS107, hk108, hZ109, hown110, E111, F112, F113, F114, l115, l116, C117, Lt118, ne119, st120⟩ := ldcCH X55 hx hZ hown (wT hw 65 rfl) (o_strAtoms hw) e97 hS0 hk91 (o_EW hw) (List.mem_of_getElem? (i := 2) rfl) Cr94.1 (vs := [(.int 84), (.int 104), (.int 101), (.int 32), (.int 97), (.int 103), (.int 103), (.int 114), (.int 101), (.int 103), (.int 97), (.int 116), (.int 101), (.int 32), (.int 111), (.int 102), (.int 32), (.int 116), (.int 121), (.int 112), (.int 101), (.int 32)]) (z := (22 : Int32)) ⟨by decide, rfl⟩ (by decide) rfl (g := (mkF m 7 #[vR a1, vR a2] [.ref a30])) rfl (hb hby o_h409) (n := 88) (by decide) (by decide) (by decide) (by decide)
 have Sf121 := C117.safe F65.lt Sf92
 have ne122 := (ne119 _ Sf121).1
 have ne123 := (ne119 _ Sf121).2
 have Sf124 := C117.safe F70.lt Sf93
 have ne125 := (ne119 _ Sf124).1
 have ne126 := (ne119 _ Sf124).2
 have F127 := Exa.ext (h' := h100) E106 F77
 have F128 := Fld.ext (h' := h100) E106 F78
 have F129 := Fld.ext (h' := h100) E106 F80
 have F130 := F81.ext E106
 have F131 := Exa.ext (h' := h100) E106 F83
 have F132 := Fld.ext (h' := h100) E106 F84
 have F133 := Fld.ext (h' := h100) E106 F86
 have F134 := F87.ext E106
 have F135 := Exa.ext (h' := h100) E106 F65
 have F136 := Fld.ext (h' := h100) E106 F66
 have F137 := Fld.ext (h' := h100) E106 F67
 have F138 := Fld.ext (h' := h100) E106 F68
 have F139 := F69.ext E106
 have F140 := Exa.ext (h' := h100) E106 F70
 have Z141 : n0 ≤ h100.size := Nat.le_trans Z90 E106.1
 have O142 := O95.ext E106
 have P143 : Keep h0 h100 [] := P96.ext E106
 have Cr144 := Cr94.trans C117
 have k4 : o_J p e below T99 m 9 #[vR a1, vR a2] [.ref a98, .ref a30] B_ := fun t_ hh => k3 t_ (st120 t_ hh)
 clear k3 st120 X55 e97
 have F145 := o_lit1_arv F114
 have ne146 : a1 ≠ t263 := Nat.ne_of_lt (Nat.lt_of_lt_of_le F36.lt F72)
 have ne147 : u1 ≠ t263 := Nat.ne_of_lt (Nat.lt_of_lt_of_le F39.lt F72)
 have ne148 : a2 ≠ t263 := Nat.ne_of_lt (Nat.lt_of_lt_of_le F40.lt F72)
 have ne149 : u2 ≠ t263 := Nat.ne_of_lt (Nat.lt_of_lt_of_le F43.lt F72)
 have ne161 : a30 ≠ t263 := Nat.ne_of_lt (Nat.lt_of_lt_of_le A26.lt F72)
 obtain ⟨cq162, kq163, qa164, qb165, qc166⟩ := isOf hZ109 e105 F135
 obtain ⟨_, _, ⟨T150, L151, k_152, n_153⟩, -, X154, ⟨Lc155, hQ156, l_157, y_158, z_159⟩, st160⟩ := X104.virtualBack hx (y := ⟨oB, "append", "(Ljava/lang/String;)Ljava/lang/StringBuilder;"⟩) (z := ⟨oB, "append", "(Ljava/lang/String;)Ljava/lang/StringBuilder;"⟩) hown110 (mvT hZ109 (wT hw 66 rfl)) (mvT hZ109 (wT hw 67 rfl)) (notFace_of_selects (args := #[]) (mvT hZ109 (wT hw 69 rfl))) (mvT hZ109 (wT hw 69 rfl)) (mvT hZ109 (wT hw 68 rfl)) (by decide) (backOf (W := 0) (rmSa l Z a0 hw [] a30 t263 k264 16 (List.replicate 16 (.int 0)) ([] : List Int32) a98 b102 kb103 o_lit1 h100 n0 Z141 F135 F136 F137 F138 F139 F140 E111 F113 F112 F145 ⟨List.length_replicate, rfl⟩ (Nat.zero_le _) (Nat.le_trans (o_cap_le (B := 34) (Nat.le_trans (Nat.add_le_add (Nat.le_refl 0) (Nat.le_of_eq o_lit1_len)) (o_l rfl)) (o_l rfl)) (o_l rfl)) G33 F71 ne161 (Ne.symm ne126) (Ne.symm ne125) (Ne.symm ne123) (Ne.symm ne122) O142 ci sC hc) hZ109 (wT hw 70 rfl) (wT hw 43 rfl) (by decide) (by decide)) qa164 qc166 (g := (mkF m 9 #[vR a1, vR a2] [.ref a98, .ref a30])) rfl (by rw [hml]; rfl) (Steps.refl _) (argsL := [.ref a98]) (rest := []) (lenOf o_h411 rfl) rfl (o_w0 rfl) (hb hby o_h410) (fun _ _ => ⟨rfl, e105, o_l rfl, o_l rfl⟩)
 dsimp only [Pt.U, Pt.locs, Pt.cells, Pt.slots] at X154 l_157 y_158 z_159 st160 hQ156
 subst l_157 y_158 z_159
 obtain ⟨t2168, k2169, es170, rfl, N167, K181, F171, F172, F173, F174, F175, F176, F177, F178, F179, F180, -⟩ := hQ156
 have N182 := Fr.app N74 N167
 have Sf183 := o_safe_or Sf124 F178
 have ne184 : a1 ≠ t2168 := o_ne_or ne146 F127.lt F178
 have ne185 : u1 ≠ t2168 := o_ne_or ne147 F130.lt F178
 have ne186 : a2 ≠ t2168 := o_ne_or ne148 F131.lt F178
 have ne187 : u2 ≠ t2168 := o_ne_or ne149 F134.lt F178
 have ne188 : b102 ≠ t2168 := o_ne_or (Ne.symm ne126) F145.lt F178
 have ne189 : a98 ≠ t2168 := o_ne_or (Ne.symm ne125) E111.lt F178
 have H0190 : h0.size ≤ t2168 := o_ge_or H075 P143.1 F178
 have F191 := F127.keep K181
 have F192 := F128.keep K181 (ninS ne79 (ninS ne146 nin0))
 have F193 := F129.keep K181 (ninS ne79 (ninS ne146 nin0))
 have F194 := F130.keep K181 (ninS ne82 (ninS ne147 nin0))
 have F195 := F131.keep K181
 have F196 := F132.keep K181 (ninS ne85 (ninS ne148 nin0))
 have F197 := F133.keep K181 (ninS ne85 (ninS ne148 nin0))
 have F198 := F134.keep K181 (ninS ne88 (ninS ne149 nin0))
 have F199 := F135.keep K181
 have F200 := F140.keep K181
 have F201 := F145.keep K181 (ninS (Ne.symm ne123) (ninS (Ne.symm ne126) nin0))
 have F202 := E111.keep K181
 have F203 := F113.keep K181 (ninS (Ne.symm ne122) (ninS (Ne.symm ne125) nin0))
 have F204 := F112.keep K181 (ninS (Ne.symm ne122) (ninS (Ne.symm ne125) nin0))
 have Z205 : n0 ≤ T150.heap.size := Nat.le_trans Z141 K181.1
 have hk206 := Nat.le_trans hk108 K181.1
 have Sf207 := Safe.keep K181 (allS Sf121 (allS Sf124 all0)) Cr144.1 Sf121
 have Sf208 := Safe.keep K181 (allS Sf121 (allS Sf124 all0)) Cr144.1 Sf124
 have Sf209 := Safe.keep K181 (allS Sf121 (allS Sf124 all0)) Cr144.1 Sf183
 have Cr210 := Cr144.trans (CHr.keep K181 (allS Sf121 (allS Sf124 all0)) Cr144.1)
 have O211 := O142.keep K181 (allS G33 (allS F71 all0))
 have P212 : Keep h0 T150.heap [] := P143.trans K181 (allS (P := fun x => x ∈ [] ∨ h0.size ≤ x) (Or.inr H032) (allS (P := fun x => x ∈ [] ∨ h0.size ≤ x) (Or.inr H075) all0))
 have e213 : T150.heap = T150.heap := rfl
 have k5 : o_J p e below T150 m 12 #[vR a1, vR a2] [.ref a30] B_ := fun t_ hh => k4 t_ (st160.trans hh)
 clear k4 st160 X104 e105
 obtain ⟨us214, eu215⟩ : ∃ z, z = ([] : List Int32) ++ o_lit1 := ⟨_, rfl⟩
 rw [← eu215] at F174 F177
 have hl216 : List.length us214 ≤ 22 := by rw [eu215, List.length_append]; exact Nat.add_le_add (Nat.le_refl 0) (Nat.le_of_eq o_lit1_len)
 rw [show o_cap 16 (List.length ([] : List Int32) + List.length o_lit1) = 34 from by decide] at F175 F177
 have hn217 : List.length us214 ≤ 34 := Nat.le_trans hl216 (o_l rfl)
 have k6 : o_J p e below T150 m 13 #[vR a1, vR a2] [.ref a1, .ref a30] B_ := fun t_ hh => k5 t_ (by
  refine XS.aloadN X154.here hx rfl (hb hby o_h412) rfl rfl ?_
  exact hh)
 clear k5
 obtain ⟨cq229, kq230, qa231, qb232, qc233⟩ := isOf hZ109 e213 F171
 obtain ⟨_, _, ⟨T218, L219, k_220, n_221⟩, -, X222, ⟨Lc223, hQ224, l_225, y_226, z_227⟩, st228⟩ := X154.virtualBack hx (y := ⟨oB, "append", "(Ljava/lang/String;)Ljava/lang/StringBuilder;"⟩) (z := ⟨oB, "append", "(Ljava/lang/String;)Ljava/lang/StringBuilder;"⟩) hown110 (mvT hZ109 (wT hw 66 rfl)) (mvT hZ109 (wT hw 67 rfl)) (notFace_of_selects (args := #[]) (mvT hZ109 (wT hw 69 rfl))) (mvT hZ109 (wT hw 69 rfl)) (mvT hZ109 (wT hw 68 rfl)) (by decide) (backOf (W := 0) (rmSa l Z a0 hw [] a30 t2168 k2169 34 es170 us214 a1 u1 k1 c1 T150.heap n0 Z205 F171 F172 F173 F174 F175 F176 F191 F192 F193 F194 F177 hn217 (o_cap_sameB (cap := 34) (Nat.le_trans (Nat.add_le_add hl216 hc1) (o_l rfl)) (o_l rfl)) G33 F179 F180 ne185 ne184 ne82 ne79 O211 ci sC hc) hZ109 (wT hw 70 rfl) (wT hw 43 rfl) (by decide) (by decide)) qa231 qc233 (g := (mkF m 13 #[vR a1, vR a2] [.ref a1, .ref a30])) rfl (by rw [hml]; rfl) (Steps.refl _) (argsL := [.ref a1]) (rest := []) (lenOf o_h411 rfl) rfl (o_w0 rfl) (hb hby o_h413) (fun _ _ => ⟨rfl, e213, o_l rfl, o_l rfl⟩)
 dsimp only [Pt.U, Pt.locs, Pt.cells, Pt.slots] at X222 l_225 y_226 z_227 st228 hQ224
 subst l_225 y_226 z_227
 obtain ⟨t2235, k2236, es237, rfl, N234, K248, F238, F239, F240, F241, F242, F243, F244, F245, F246, F247, -⟩ := hQ224
 have N249 := Fr.app N182 N234
 have Sf250 := o_safe_or Sf209 F245
 have ne251 : a1 ≠ t2235 := o_ne_or ne184 F191.lt F245
 have ne252 : u1 ≠ t2235 := o_ne_or ne185 F194.lt F245
 have ne253 : a2 ≠ t2235 := o_ne_or ne186 F195.lt F245
 have ne254 : u2 ≠ t2235 := o_ne_or ne187 F198.lt F245
 have H0255 : h0.size ≤ t2235 := o_ge_or H0190 P212.1 F245
 have F256 := F191.keep K248
 have F257 := F192.keep K248 (ninS ne79 (ninS ne184 nin0))
 have F258 := F193.keep K248 (ninS ne79 (ninS ne184 nin0))
 have F259 := F194.keep K248 (ninS ne82 (ninS ne185 nin0))
 have F260 := F195.keep K248
 have F261 := F196.keep K248 (ninS ne85 (ninS ne186 nin0))
 have F262 := F197.keep K248 (ninS ne85 (ninS ne186 nin0))
 have F263 := F198.keep K248 (ninS ne88 (ninS ne187 nin0))
 have F264 := F171.keep K248
 have F265 := F176.keep K248
 have Z266 : n0 ≤ T218.heap.size := Nat.le_trans Z205 K248.1
 have hk267 := Nat.le_trans hk206 K248.1
 have Sf268 := Safe.keep K248 (allS Sf207 (allS Sf209 all0)) Cr210.1 Sf207
 have Sf269 := Safe.keep K248 (allS Sf207 (allS Sf209 all0)) Cr210.1 Sf209
 have Sf270 := Safe.keep K248 (allS Sf207 (allS Sf209 all0)) Cr210.1 Sf250
 have Cr271 := Cr210.trans (CHr.keep K248 (allS Sf207 (allS Sf209 all0)) Cr210.1)
 have O272 := O211.keep K248 (allS G33 (allS F179 all0))
 have P273 : Keep h0 T218.heap [] := P212.trans K248 (allS (P := fun x => x ∈ [] ∨ h0.size ≤ x) (Or.inr H032) (allS (P := fun x => x ∈ [] ∨ h0.size ≤ x) (Or.inr H0190) all0))
 have e274 : T218.heap = T218.heap := rfl
 have k7 : o_J p e below T218 m 16 #[vR a1, vR a2] [.ref a30] B_ := fun t_ hh => k6 t_ (st228.trans hh)
 clear k6 st228 X154 e213
 obtain ⟨us275, eu276⟩ : ∃ z, z = us214 ++ c1 := ⟨_, rfl⟩
 rw [← eu276] at F241 F244
 have hl277 : List.length us275 ≤ 24 := by rw [eu276, List.length_append]; exact Nat.add_le_add hl216 hc1
 rw [show o_cap 34 (List.length us214 + List.length c1) = 34 from o_cap_same (Nat.le_trans (Nat.add_le_add hl216 hc1) (o_l rfl))] at F242 F244
 have hn278 : List.length us275 ≤ 34 := Nat.le_trans hl277 (o_l rfl)
 obtain ⟨a279, T280, h281, k_282, b283, kb284, X285, e286, E287, hS288, hk289, hZ290, hown291, E292, F293, F294, F295, l296, l297, C298, Lt299, ne300, st301⟩ := ldcCH X222 hx hZ109 hown110 (wT hw 137 rfl) (o_strAtoms hw) e274 hS107 hk267 (o_EW hw) (List.mem_of_getElem? (i := 3) rfl) Cr271.1 (vs := [(.int 32), (.int 119), (.int 105), (.int 116), (.int 104), (.int 32), (.int 105), (.int 100), (.int 32)]) (z := (9 : Int32)) ⟨by decide, rfl⟩ (by decide) rfl (g := (mkF m 16 #[vR a1, vR a2] [.ref a30])) rfl (hb hby o_h414) (n := 36) (by decide) (by decide) (by decide) (by decide)
 have Sf302 := C298.safe F238.lt Sf268
 have ne303 := (ne300 _ Sf302).1
 have ne304 := (ne300 _ Sf302).2
 have Sf305 := C298.safe F243.lt Sf270
 have ne306 := (ne300 _ Sf305).1
 have ne307 := (ne300 _ Sf305).2
 have F308 := Exa.ext (h' := h281) E287 F260
 have F309 := Fld.ext (h' := h281) E287 F261
 have F310 := Fld.ext (h' := h281) E287 F262
 have F311 := F263.ext E287
 have F312 := Exa.ext (h' := h281) E287 F238
 have F313 := Fld.ext (h' := h281) E287 F239
 have F314 := Fld.ext (h' := h281) E287 F240
 have F315 := Fld.ext (h' := h281) E287 F241
 have F316 := F242.ext E287
 have F317 := Exa.ext (h' := h281) E287 F243
 have Z318 : n0 ≤ h281.size := Nat.le_trans Z266 E287.1
 have O319 := O272.ext E287
 have P320 : Keep h0 h281 [] := P273.ext E287
 have Cr321 := Cr271.trans C298
 have k8 : o_J p e below T280 m 18 #[vR a1, vR a2] [.ref a279, .ref a30] B_ := fun t_ hh => k7 t_ (st301 t_ hh)
 clear k7 st301 X222 e274
 have F322 := o_lit2_arv F295
 obtain ⟨cq334, kq335, qa336, qb337, qc338⟩ := isOf hZ290 e286 F312
 obtain ⟨_, _, ⟨T323, L324, k_325, n_326⟩, -, X327, ⟨Lc328, hQ329, l_330, y_331, z_332⟩, st333⟩ := X285.virtualBack hx (y := ⟨oB, "append", "(Ljava/lang/String;)Ljava/lang/StringBuilder;"⟩) (z := ⟨oB, "append", "(Ljava/lang/String;)Ljava/lang/StringBuilder;"⟩) hown291 (mvT hZ290 (wT hw 66 rfl)) (mvT hZ290 (wT hw 67 rfl)) (notFace_of_selects (args := #[]) (mvT hZ290 (wT hw 69 rfl))) (mvT hZ290 (wT hw 69 rfl)) (mvT hZ290 (wT hw 68 rfl)) (by decide) (backOf (W := 0) (rmSa l Z a0 hw [] a30 t2235 k2236 34 es237 us275 a279 b283 kb284 o_lit2 h281 n0 Z318 F312 F313 F314 F315 F316 F317 E292 F294 F293 F322 F244 hn278 (o_cap_sameB (cap := 34) (Nat.le_trans (Nat.add_le_add hl277 (Nat.le_of_eq o_lit2_len)) (o_l rfl)) (o_l rfl)) G33 F246 F247 (Ne.symm ne307) (Ne.symm ne306) (Ne.symm ne304) (Ne.symm ne303) O319 ci sC hc) hZ290 (wT hw 70 rfl) (wT hw 43 rfl) (by decide) (by decide)) qa336 qc338 (g := (mkF m 18 #[vR a1, vR a2] [.ref a279, .ref a30])) rfl (by rw [hml]; rfl) (Steps.refl _) (argsL := [.ref a279]) (rest := []) (lenOf o_h411 rfl) rfl (o_w0 rfl) (hb hby o_h415) (fun _ _ => ⟨rfl, e286, o_l rfl, o_l rfl⟩)
 dsimp only [Pt.U, Pt.locs, Pt.cells, Pt.slots] at X327 l_330 y_331 z_332 st333 hQ329
 subst l_330 y_331 z_332
 obtain ⟨t2340, k2341, es342, rfl, N339, K353, F343, F344, F345, F346, F347, F348, F349, F350, F351, F352, -⟩ := hQ329
 have N354 := Fr.app N249 N339
 have Sf355 := o_safe_or Sf305 F350
 have ne356 : a2 ≠ t2340 := o_ne_or ne253 F308.lt F350
 have ne357 : u2 ≠ t2340 := o_ne_or ne254 F311.lt F350
 have ne358 : b283 ≠ t2340 := o_ne_or (Ne.symm ne307) F322.lt F350
 have ne359 : a279 ≠ t2340 := o_ne_or (Ne.symm ne306) E292.lt F350
 have H0360 : h0.size ≤ t2340 := o_ge_or H0255 P320.1 F350
 have F361 := F308.keep K353
 have F362 := F309.keep K353 (ninS ne85 (ninS ne253 nin0))
 have F363 := F310.keep K353 (ninS ne85 (ninS ne253 nin0))
 have F364 := F311.keep K353 (ninS ne88 (ninS ne254 nin0))
 have F365 := F312.keep K353
 have F366 := F317.keep K353
 have F367 := F322.keep K353 (ninS (Ne.symm ne304) (ninS (Ne.symm ne307) nin0))
 have F368 := E292.keep K353
 have F369 := F294.keep K353 (ninS (Ne.symm ne303) (ninS (Ne.symm ne306) nin0))
 have F370 := F293.keep K353 (ninS (Ne.symm ne303) (ninS (Ne.symm ne306) nin0))
 have Z371 : n0 ≤ T323.heap.size := Nat.le_trans Z318 K353.1
 have hk372 := Nat.le_trans hk289 K353.1
 have Sf373 := Safe.keep K353 (allS Sf302 (allS Sf305 all0)) Cr321.1 Sf302
 have Sf374 := Safe.keep K353 (allS Sf302 (allS Sf305 all0)) Cr321.1 Sf305
 have Sf375 := Safe.keep K353 (allS Sf302 (allS Sf305 all0)) Cr321.1 Sf355
 have Cr376 := Cr321.trans (CHr.keep K353 (allS Sf302 (allS Sf305 all0)) Cr321.1)
 have O377 := O319.keep K353 (allS G33 (allS F246 all0))
 have P378 : Keep h0 T323.heap [] := P320.trans K353 (allS (P := fun x => x ∈ [] ∨ h0.size ≤ x) (Or.inr H032) (allS (P := fun x => x ∈ [] ∨ h0.size ≤ x) (Or.inr H0255) all0))
 have e379 : T323.heap = T323.heap := rfl
 have k9 : o_J p e below T323 m 21 #[vR a1, vR a2] [.ref a30] B_ := fun t_ hh => k8 t_ (st333.trans hh)
 clear k8 st333 X285 e286
 obtain ⟨us380, eu381⟩ : ∃ z, z = us275 ++ o_lit2 := ⟨_, rfl⟩
 rw [← eu381] at F346 F349
 have hl382 : List.length us380 ≤ 33 := by rw [eu381, List.length_append]; exact Nat.add_le_add hl277 (Nat.le_of_eq o_lit2_len)
 rw [show o_cap 34 (List.length us275 + List.length o_lit2) = 34 from o_cap_same (Nat.le_trans (Nat.add_le_add hl277 (Nat.le_of_eq o_lit2_len)) (o_l rfl))] at F347 F349
 have hn383 : List.length us380 ≤ 34 := Nat.le_trans hl382 (o_l rfl)
 have k10 : o_J p e below T323 m 22 #[vR a1, vR a2] [.ref a2, .ref a30] B_ := fun t_ hh => k9 t_ (by
  refine XS.aloadN X327.here hx rfl (hb hby o_h416) rfl rfl ?_
  exact hh)
 clear k9
 obtain ⟨cq395, kq396, qa397, qb398, qc399⟩ := isOf hZ290 e379 F343
 obtain ⟨_, _, ⟨T384, L385, k_386, n_387⟩, -, X388, ⟨Lc389, hQ390, l_391, y_392, z_393⟩, st394⟩ := X327.virtualBack hx (y := ⟨oB, "append", "(Ljava/lang/String;)Ljava/lang/StringBuilder;"⟩) (z := ⟨oB, "append", "(Ljava/lang/String;)Ljava/lang/StringBuilder;"⟩) hown291 (mvT hZ290 (wT hw 66 rfl)) (mvT hZ290 (wT hw 67 rfl)) (notFace_of_selects (args := #[]) (mvT hZ290 (wT hw 69 rfl))) (mvT hZ290 (wT hw 69 rfl)) (mvT hZ290 (wT hw 68 rfl)) (by decide) (backOf (W := 0) (rmSa l Z a0 hw [] a30 t2340 k2341 34 es342 us380 a2 u2 k2 c2 T323.heap n0 Z371 F343 F344 F345 F346 F347 F348 F361 F362 F363 F364 F349 hn383 (Nat.le_trans (o_cap_le (B := 70) (Nat.le_trans (Nat.add_le_add hl382 hc2) (o_l rfl)) (o_l rfl)) (o_l rfl)) G33 F351 F352 ne357 ne356 ne88 ne85 O377 ci sC hc) hZ290 (wT hw 70 rfl) (wT hw 43 rfl) (by decide) (by decide)) qa397 qc399 (g := (mkF m 22 #[vR a1, vR a2] [.ref a2, .ref a30])) rfl (by rw [hml]; rfl) (Steps.refl _) (argsL := [.ref a2]) (rest := []) (lenOf o_h411 rfl) rfl (o_w0 rfl) (hb hby o_h417) (fun _ _ => ⟨rfl, e379, o_l rfl, o_l rfl⟩)
 dsimp only [Pt.U, Pt.locs, Pt.cells, Pt.slots] at X388 l_391 y_392 z_393 st394 hQ390
 subst l_391 y_392 z_393
 obtain ⟨t2401, k2402, es403, rfl, N400, K414, F404, F405, F406, F407, F408, F409, F410, F411, F412, F413, -⟩ := hQ390
 have N415 := Fr.app N354 N400
 have Sf416 := o_safe_or Sf375 F411
 have ne417 : a2 ≠ t2401 := o_ne_or ne356 F361.lt F411
 have ne418 : u2 ≠ t2401 := o_ne_or ne357 F364.lt F411
 have H0419 : h0.size ≤ t2401 := o_ge_or H0360 P378.1 F411
 have F420 := F361.keep K414
 have F421 := F362.keep K414 (ninS ne85 (ninS ne356 nin0))
 have F422 := F363.keep K414 (ninS ne85 (ninS ne356 nin0))
 have F423 := F364.keep K414 (ninS ne88 (ninS ne357 nin0))
 have F424 := F343.keep K414
 have F425 := F348.keep K414
 have Z426 : n0 ≤ T384.heap.size := Nat.le_trans Z371 K414.1
 have hk427 := Nat.le_trans hk372 K414.1
 have Sf428 := Safe.keep K414 (allS Sf373 (allS Sf375 all0)) Cr376.1 Sf373
 have Sf429 := Safe.keep K414 (allS Sf373 (allS Sf375 all0)) Cr376.1 Sf375
 have Sf430 := Safe.keep K414 (allS Sf373 (allS Sf375 all0)) Cr376.1 Sf416
 have Cr431 := Cr376.trans (CHr.keep K414 (allS Sf373 (allS Sf375 all0)) Cr376.1)
 have O432 := O377.keep K414 (allS G33 (allS F351 all0))
 have P433 : Keep h0 T384.heap [] := P378.trans K414 (allS (P := fun x => x ∈ [] ∨ h0.size ≤ x) (Or.inr H032) (allS (P := fun x => x ∈ [] ∨ h0.size ≤ x) (Or.inr H0360) all0))
 have e434 : T384.heap = T384.heap := rfl
 have k11 : o_J p e below T384 m 25 #[vR a1, vR a2] [.ref a30] B_ := fun t_ hh => k10 t_ (st394.trans hh)
 clear k10 st394 X327 e379
 obtain ⟨us435, eu436⟩ : ∃ z, z = us380 ++ c2 := ⟨_, rfl⟩
 rw [← eu436] at F407 F410
 have hl437 : List.length us435 ≤ 35 := by rw [eu436, List.length_append]; exact Nat.add_le_add hl382 hc2
 obtain ⟨cp439, ec440⟩ : ∃ z, z = o_cap 34 (List.length us380 + List.length c2) := ⟨_, rfl⟩
 rw [← ec440] at F408 F410
 have hb441 : cp439 ≤ 70 := by rw [ec440]; exact o_cap_le (Nat.le_trans (Nat.add_le_add hl382 hc2) (o_l rfl)) (o_l rfl)
 have hn438 : List.length us435 ≤ cp439 := by rw [eu436, List.length_append, ec440]; exact o_cap_ge
 obtain ⟨cq453, kq454, qa455, qb456, qc457⟩ := isOf hZ290 e434 F404
 obtain ⟨_, _, ⟨T442, L443, k_444, n_445⟩, -, X446, ⟨Lc447, hQ448, l_449, y_450, z_451⟩, st452⟩ := X388.virtualBack hx (y := ⟨oB, "toString", "()Ljava/lang/String;"⟩) (z := ⟨oB, "toString", "()Ljava/lang/String;"⟩) hown291 (mvT hZ290 (wT hw 138 rfl)) (mvT hZ290 (wT hw 139 rfl)) (notFace_of_selects (args := #[]) (mvT hZ290 (wT hw 141 rfl))) (mvT hZ290 (wT hw 141 rfl)) (mvT hZ290 (wT hw 140 rfl)) (by decide) (backOf (W := 0) (rmTs l Z a0 hw [] a30 t2401 k2402 cp439 es403 us435 T384.heap n0 Z426 F404 F405 F406 F407 F408 F409 F410 hn438 (Nat.le_trans hb441 (o_l rfl)) O432 ci sC hc) hZ290 (wT hw 142 rfl) (wT hw 43 rfl) (by decide) (by decide)) qa455 qc457 (g := (mkF m 25 #[vR a1, vR a2] [.ref a30])) rfl (by rw [hml]; rfl) (Steps.refl _) (argsL := []) (rest := []) (lenOf o_h419 rfl) rfl (o_w0 rfl) (hb hby o_h418) (fun _ _ => ⟨rfl, e434, o_l rfl, o_l rfl⟩)
 dsimp only [Pt.U, Pt.locs, Pt.cells, Pt.slots] at X446 l_449 y_450 z_451 st452 hQ448
 subst l_449 y_450 z_451
 obtain ⟨r459, t2460, k2461, rfl, N458, K470, F462, F463, F464, F465, F466, F467, F468, F469, -⟩ := hQ448
 have N471 := Fr.app N415 N458
 have H0472 : h0.size ≤ r459 := Nat.le_trans P433.1 F468
 have H0473 : h0.size ≤ t2460 := Nat.le_trans P433.1 F469
 have Sf474 := o_safeNew Cr431.1 F468
 have Sf475 := o_safeNew Cr431.1 F469
 have F476 := F404.keep K470
 have F477 := F405.keep K470 nin0
 have F478 := F406.keep K470 nin0
 have F479 := F407.keep K470 nin0
 have F480 := F408.keep K470 nin0
 have F481 := F409.keep K470
 have Z482 : n0 ≤ T442.heap.size := Nat.le_trans Z426 K470.1
 have hk483 := Nat.le_trans hk427 K470.1
 have Sf484 := Safe.keep K470 all0 Cr431.1 Sf428
 have Sf485 := Safe.keep K470 all0 Cr431.1 Sf430
 have Sf486 := Safe.keep K470 all0 Cr431.1 Sf474
 have Sf487 := Safe.keep K470 all0 Cr431.1 Sf475
 have Cr488 := Cr431.trans (CHr.keep K470 all0 Cr431.1)
 have O489 := O432.keep K470 all0
 have P490 : Keep h0 T442.heap [] := P433.trans K470 (fun _ q => nomatch q)
 have e491 : T442.heap = T442.heap := rfl
 have k12 : o_J p e below T442 m 28 #[vR a1, vR a2] [.ref r459] B_ := fun t_ hh => k11 t_ (st452.trans hh)
 clear k11 st452 X388 e434
 obtain ⟨fs, hr, hrun, hended, hEnd⟩ := X446.leaveW hS288 (by rw [e491]; exact hk483) (v := some (.ref r459)) (fun h => by rw [Bd.returns] at h; cases h)
 refine ⟨_, _, (o_from hB_ (k12 _ (retOut X446 hx (t := .object oS) Bd.returns rfl (Or.inr (Or.inr (Or.inr (Or.inr ⟨rfl, rfl, rfl⟩)))) (hb hby o_h420) hr))), hrun, hended, _, _, rfl, ?_, ?_, hEnd.1, hEnd.2.1, hEnd.2.2.1, hEnd.2.2.2.mono (o_l rfl) (o_l rfl)⟩
 rotate_left
 · show CHr Z o_EL s.vm s.heap T442.vm T442.heap
   rw [hh, e491]
   exact Cr488.trans (CHv.at X446 hZ290 (o_EW hw) Cr488.1)
 show Q_rmAg Z a1 u1 k1 c1 a2 u2 k2 c2 h0 n0 _ T442.heap _
 rw [e491]
 exact ⟨r459, t2460, k2461, us435, rfl, N471, P490, F462, F463, F464, F465, (by rw [eu436, eu381, eu276, eu215, List.nil_append]), H0472, H0473, trivial⟩
/-- the two tables of digits, at the start -/
def o_Dig (Z : State) : Prop := ∃ (st d1 d2 : Addr) (D1 D2 : Cell), Jvm.Free.SBG.Tbl Z "DigitOnes" st d1 D1 ∧ Jvm.Free.SBG.Tbl Z "DigitTens" st d2 D2 ∧ Jvm.Free.SBG.Ones D1 ∧ Jvm.Free.SBG.Tens D2
/-- the chars of a number: so many, the last one its ones -/
def o_gs (n : Nat) (gs : List Int32) : Prop := gs.length = Jvm.Free.SBG.digitsL n ∧ (∀ c ∈ gs, o_b8 c) ∧ gs.getD (gs.length - 1) 0 = Int32.ofNat (48 + n % 10)
def o_exp (v : Int64) (ms : List Int32) : Prop := (v.toInt < 0 → ms = o_lit4) ∧ (0 ≤ v.toInt → ∃ gs, ms = o_lit5 ++ gs ∧ o_gs v.toInt.toNat gs)
theorem o_lcmp0 {v : Int64} : lcmpW v (0 : Int64) < 0 ↔ v.toInt < 0 := by
  have q := c_lcmp v (0 : Int64)
  rw [show (0 : Int64).toInt = 0 from rfl] at q
  rw [Int32.lt_iff_toInt_lt, show (0 : Int32).toInt = 0 from rfl]
  omega
theorem o_lcmp_self {v : Int64} : lcmpW v v = 0 := by
  have q := c_lcmp v v
  apply Int32.toInt_inj.mp
  rw [show (0 : Int32).toInt = 0 from rfl]; omega
/-- how many of 10, 100, .. lie at n or below, and one -/
def o_dc (n : Nat) : Nat → Nat
  | 0 => 1
  | k + 1 => o_dc n k + (if 10 ^ (k + 1) ≤ n then 1 else 0)
theorem o_dc_succ (n k : Nat) : o_dc n (k + 1) = o_dc n k + (if 10 ^ (k + 1) ≤ n then 1 else 0) := rfl
theorem o_dcT {v : Int64} {d : Int32} {k : Nat} {P : Int64} (hv : 0 ≤ v.toInt) (hP : P.toInt = ((10 ^ (k + 1) : Nat) : Int)) (h : d = Int32.ofNat (o_dc v.toInt.toNat k)) (c : lcmpW v P < 0) : d = Int32.ofNat (o_dc v.toInt.toNat (k + 1)) := by
  have q := c_lcmp v P
  rw [Int32.lt_iff_toInt_lt, show (0 : Int32).toInt = 0 from rfl] at c
  rw [o_dc_succ]
  generalize 10 ^ (k + 1) = t at hP ⊢
  rw [if_neg (by omega), Nat.add_zero]; exact h
theorem o_dcF {v : Int64} {d : Int32} {k : Nat} {P : Int64} (hv : 0 ≤ v.toInt) (hP : P.toInt = ((10 ^ (k + 1) : Nat) : Int)) (h : d = Int32.ofNat (o_dc v.toInt.toNat k)) (c : ¬ lcmpW v P < 0) : d + (1 : Int32) = Int32.ofNat (o_dc v.toInt.toNat (k + 1)) := by
  have q := c_lcmp v P
  rw [Int32.lt_iff_toInt_lt, show (0 : Int32).toInt = 0 from rfl] at c
  rw [o_dc_succ]
  generalize 10 ^ (k + 1) = t at hP ⊢
  rw [if_pos (by omega), h]; exact (Int32.ofNat_add _ 1).symm
theorem o_dc_small {n : Nat} (h : n < 100) : ∀ K, o_dc n (K + 1) = if 9 < n then 2 else 1 := by
  intro K
  induction K with
  | zero =>
    rw [o_dc_succ]
    show 1 + (if 10 ≤ n then 1 else 0) = _
    by_cases q : 9 < n
    · rw [if_pos (by omega), if_pos q]
    · rw [if_neg (by omega), if_neg q]
  | succ K ih =>
    have t : 10 ^ 2 ≤ 10 ^ (K + 1 + 1) := Nat.pow_le_pow_right (by decide) (by omega)
    rw [o_dc_succ, ih, if_neg (show ¬ 10 ^ (K + 1 + 1) ≤ n from fun z => absurd (Nat.le_trans t z) (by omega)), Nat.add_zero]
theorem o_dc_big {n : Nat} (h : 100 ≤ n) : ∀ K, o_dc n (K + 2) = 2 + o_dc (n / 100) K := by
  intro K
  induction K with
  | zero =>
    show 1 + (if 10 ≤ n then 1 else 0) + (if 100 ≤ n then 1 else 0) = 2 + 1
    rw [if_pos (by omega), if_pos h]
  | succ K ih =>
    have e : 10 ^ (K + 2 + 1) ≤ n ↔ 10 ^ (K + 1) ≤ n / 100 := by
      rw [show K + 2 + 1 = (K + 1) + 2 by omega, Nat.pow_add, Nat.le_div_iff_mul_le (by decide)]
      first | done | exact Iff.rfl
    show o_dc n (K + 2) + (if 10 ^ (K + 2 + 1) ≤ n then 1 else 0) = 2 + (o_dc (n / 100) K + (if 10 ^ (K + 1) ≤ n / 100 then 1 else 0))
    rw [ih]
    by_cases q : 10 ^ (K + 1) ≤ n / 100
    · rw [if_pos (e.mpr q), if_pos q]; omega
    · rw [if_neg (fun z => q (e.mp z)), if_neg q]; omega
theorem o_wN (f n : Nat) : Jvm.Free.SBG.wN (f + 1) n = if 100 ≤ n then 2 + Jvm.Free.SBG.wN f (n / 100) else if 9 < n then 2 else 1 := rfl
theorem o_dc_wN : ∀ (j n : Nat), n < 10 ^ (2 * j + 1) → Jvm.Free.SBG.wN (j + 1) n = o_dc n (2 * j) := by
  intro j
  induction j with
  | zero =>
    intro n h
    have h' : n < 10 := h
    rw [o_wN, if_neg (by omega), if_neg (by omega)]; rfl
  | succ j ih =>
    intro n h
    rw [o_wN, show 2 * (j + 1) = 2 * j + 2 by omega]
    by_cases q : 100 ≤ n
    · rw [if_pos q, o_dc_big q, ih (n / 100) ?_]
      rw [Nat.div_lt_iff_lt_mul (by decide)]
      have t : 10 ^ (2 * (j + 1) + 1) = 10 ^ (2 * j + 1) * 100 := by
        rw [show 2 * (j + 1) + 1 = (2 * j + 1) + 2 by omega, Nat.pow_add]
        first | done | rfl
      rw [t] at h; exact h
    · rw [if_neg q, o_dc_small (by omega) (2 * j + 1)]
theorem o_dc18 {v : Int64} (hv : 0 ≤ v.toInt) : o_dc v.toInt.toNat 18 = Jvm.Free.SBG.digitsL v.toInt.toNat := by
  have r := (rng64 v).2
  have t : (10 : Nat) ^ (2 * 9 + 1) = 10000000000000000000 := by decide
  exact (o_dc_wN 9 v.toInt.toNat (by rw [t]; omega)).symm
theorem o_dc_le (n : Nat) : ∀ k, o_dc n k ≤ k + 1 := by
  intro k
  induction k with
  | zero => exact Nat.le_refl _
  | succ k ih =>
    rw [o_dc_succ]
    split <;> omega
theorem o_d19 {v : Int64} (h : 0 ≤ v.toInt) : Jvm.Free.SBG.digitsL v.toInt.toNat ≤ 19 := by
  rw [← o_dc18 h]; exact o_dc_le _ 18

theorem o_negL {x : Int64} (h : 0 ≤ x.toInt) : (if x < 0 then x else -x) = Jvm.Free.SBG.negL x.toInt.toNat := by
  have r := rng64 x
  have n := c_lneg x
  have r2 := rng64 (-x)
  have hx : ¬ x < 0 := by rw [Int64.lt_iff_toInt_lt, show (0 : Int64).toInt = 0 from rfl]; omega
  rw [if_neg hx]
  apply Int64.toInt_inj.mp
  rw [Jvm.Free.SBG.negL_toInt (by omega)]
  omega
theorem o_sgn {x : Int64} (h : 0 ≤ x.toInt) : Jvm.Free.SBG.GetCharsL.sgnL x = 0 := if_neg (by rw [Int64.lt_iff_toInt_lt, show (0 : Int64).toInt = 0 from rfl]; omega)
theorem o_n63 (x : Int64) : x.toInt.toNat ≤ 2 ^ 63 := by have := rng64 x; omega
theorem o_in_ss : ∀ d ∈ [Jvm.Cond.code Jvm.Free.SBG.StrSizeL.ssN Jvm.Free.SBG.StrSizeL.ssB 6 (some .int), Jvm.Cond.constantLong "java/lang/Long" 140 (-10), Jvm.Cond.constantLong "java/lang/Long" 53 10, Jvm.Cond.initialized "java/lang/Long"], d ∈ tables_1 := by decide +kernel
theorem o_in_gc : ∀ d ∈ [Jvm.Cond.code Jvm.Free.SBG.GetCharsL.gcN Jvm.Free.SBG.GetCharsL.gcB 11 (some .int), Jvm.Cond.fieldLink "java/lang/Long" 133 "java/lang/Integer" "DigitOnes" "[B", Jvm.Cond.fieldLink "java/lang/Long" 137 "java/lang/Integer" "DigitTens" "[B", Jvm.Cond.constantLong "java/lang/Long" 129 (-2147483648), Jvm.Cond.constantLong "java/lang/Long" 131 100], d ∈ tables_1 := by decide +kernel
theorem o_ssBack {l : Launch} {R : Room} {p : Program} {e : Env} {below : List Frame} {s : State} {args : Array Value} {W n0 : Nat} {Z : State} {a0 : Array Value} {h : Heap} (hZ : Z.Warmed39 s.vm) (hw : ∀ d ∈ tables_1, d.before a0 Z = true) (x : Int64) (hx : 0 ≤ x.toInt) (hfr : 2 ≤ R.frames) (hlo : W + 57 ≤ R.locals) :
    Back l R p e below s args (⟨"java/lang/Long", "stringSize", "(J)I"⟩ : MethodName) 3 W (fun A a => a = #[.long x] ∧ A.U.heap = h ∧ A.cells + 0 ≤ R.cells ∧ A.slots + 0 ≤ R.slots)
      (fun A _ v B => ∃ L, (v = some (.int (Int32.ofNat (Jvm.Free.SBG.digitsL x.toInt.toNat))) ∧ Fr n0 L ∧ B.U.heap = h) ∧ B.locs = A.locs ++ L ∧ B.cells = A.cells + 0 ∧ B.slots = A.slots + 0) := by
  have hm : ∀ (i : Nat) (d : Jvm.Cond), [Jvm.Cond.code Jvm.Free.SBG.StrSizeL.ssN Jvm.Free.SBG.StrSizeL.ssB 6 (some .int), Jvm.Cond.constantLong "java/lang/Long" 140 (-10), Jvm.Cond.constantLong "java/lang/Long" 53 10, Jvm.Cond.initialized "java/lang/Long"][i]? = some d → d.before a0 Z = true := fun i d q => hw d (o_in_ss d (List.mem_of_getElem? q))
  have htab : Jvm.Free.SBG.StrSizeL.tab.before args s = true := by
    simp only [Jvm.Free.SBG.StrSizeL.tab, Cond.before_and, Bool.and_eq_true]
    exact ⟨mvT hZ (hm 0 _ rfl), mvT hZ (hm 1 _ rfl), mvT hZ (hm 2 _ rfl)⟩
  refine Back.mono (Jvm.Free.SBG.StrSizeL.pays hfr hlo htab (mvT hZ (hm 3 _ rfl))) (fun A a hp => ⟨hp.2.2.1, hp.2.2.2, x, hp.1⟩) (fun A a v B hp hq => ⟨[], ⟨?_, Fr.nil _, hq.1.1.trans hp.2.1⟩, by rw [hq.1.2.1, List.append_nil], hq.1.2.2.1, hq.1.2.2.2⟩)
  rw [hq.2 x hp.1, Jvm.Free.SBG.strSizeOfL_eq (n := x.toInt.toNat) (o_n63 x) (o_negL hx), o_sgn hx, Nat.add_zero]
theorem o_b8N {k : Nat} (h : k < 128) : o_b8 (Int32.ofNat k) := by
  constructor
  · exact o_nneg (by omega)
  · rw [Int32.lt_iff_toInt_lt, o_nat32 (by omega), show (255 : Int32).toInt = 255 from rfl]; omega
/-- the digits of n, the highest first -/
def o_digs (n : Nat) : List Int32 := (List.range (Jvm.Free.SBG.digitsL n)).map fun t => Int32.ofNat (48 + n / 10 ^ (Jvm.Free.SBG.digitsL n - 1 - t) % 10)
theorem o_digs_len (n : Nat) : (o_digs n).length = Jvm.Free.SBG.digitsL n := by simp [o_digs]
theorem o_digs_gs (n : Nat) : o_gs n (o_digs n) := by
  have dp := (Jvm.Free.SBG.digitsL_pos n).1
  refine ⟨o_digs_len n, ?_, ?_⟩
  · intro c hc
    obtain ⟨t, -, rfl⟩ := List.mem_map.mp hc
    exact o_b8N (by omega)
  · rw [o_digs_len, List.getD_eq_getElem?_getD]
    simp only [o_digs, List.getElem?_map]
    rw [List.getElem?_range (by omega)]
    show Int32.ofNat (48 + n / 10 ^ (Jvm.Free.SBG.digitsL n - 1 - (Jvm.Free.SBG.digitsL n - 1)) % 10) = _
    rw [Nat.sub_self, Nat.pow_zero, Nat.div_one]
theorem o_digs_at {n t : Nat} (h : t < Jvm.Free.SBG.digitsL n) : (o_by (o_digs n))[t]? = some (.int (Int32.ofNat (48 + n / 10 ^ (Jvm.Free.SBG.digitsL n - 1 - t) % 10))) := by
  simp only [o_by, o_digs, List.getElem?_map]
  rw [List.getElem?_range h]
  show some (Value.int ((Int32.ofNat (48 + n / 10 ^ (Jvm.Free.SBG.digitsL n - 1 - t) % 10)).toInt8.toInt32)) = _
  rw [Jvm.Free.SBG.dgNarrow _ (by omega)]
theorem o_gcBack {l : Launch} {R : Room} {p : Program} {e : Env} {below : List Frame} {s : State} {args : Array Value} {W n0 : Nat} {Z : State} {a0 : Array Value} {h : Heap} (hZ : Z.Warmed39 s.vm) (hw : ∀ d ∈ tables_1, d.before a0 Z = true) (hdg : o_Dig Z) (O : Old Z n0 h)
    {t : Addr} {kt : ClassId} {cap : Nat} {ds : List Value} (F : Arv Z h t kt .byte (Int32.ofNat cap) ds (.int 0)) (hcap : cap ≤ 1000) (hds : ds.length = cap) (gt : n0 ≤ t) (x : Int64) (hx : 0 ≤ x.toInt) (b0 : Nat) (hb : b0 + Jvm.Free.SBG.digitsL x.toInt.toNat ≤ cap) (hfr : 2 ≤ R.frames) (hlo : W + 102 ≤ R.locals) :
    Back l R p e below s args (⟨"java/lang/Long", "getChars", "(JI[B)I"⟩ : MethodName) 3 W (fun A a => a = #[.long x, .int (Int32.ofNat (b0 + Jvm.Free.SBG.digitsL x.toInt.toNat)), .ref t] ∧ A.U.heap = h ∧ A.cells + 0 ≤ R.cells ∧ A.slots + 0 ≤ R.slots)
      (fun A _ v B => ∃ L, (∃ (es : List Value) (gs : List Int32), v = some (.int (Int32.ofNat b0)) ∧ Fr n0 L ∧ Keep h B.U.heap [t] ∧ Arv Z B.U.heap t kt .byte (Int32.ofNat cap) es (.int 0) ∧ (es.length = cap ∧ es.take (b0 + Jvm.Free.SBG.digitsL x.toInt.toNat) = ds.take b0 ++ o_by gs) ∧ o_gs x.toInt.toNat gs) ∧ B.locs = A.locs ++ L ∧ B.cells = A.cells + 0 ∧ B.slots = A.slots + 0) := by
  intro m meth c A g ig mk a X hg hsize hdc hW hnm hp
  obtain ⟨st, d1, d2, D1, D2, T1, T2, o1, o2⟩ := hdg
  obtain ⟨cl, Ar, q1, S, Ng, H, G⟩ := F
  have eS := o_natC (n := cap) (by omega)
  rw [eS] at S
  have hal : Z.vm.Alike A.U.vm := hZ.alike.trans X.warmed.alike
  have old : ∀ (y : Addr) (cy : Cell), Z.heap[y]? = some cy → A.U.heap[y]? = some cy := fun y cy hy => by rw [hp.2.1]; exact O.2.2 y cy hy
  have lt : ∀ {y : Addr} {cy : Cell}, Z.heap[y]? = some cy → t ≠ y := fun hy => (O.ne (Array.getElem?_eq_some_iff.mp hy).1 gt).symm
  obtain ⟨_, _, _, _, s1, -, -, -, -, h1s, -, -, h1d, -⟩ := id T1
  obtain ⟨_, _, _, _, s2, -, -, -, -, h2s, -, -, h2d, -⟩ := id T2
  have T1' := T1.move hal (fun cc hc => old _ cc hc) (old _ _ h1d)
  have T2' := T2.move hal (fun cc hc => old _ cc hc) (old _ _ h2d)
  have hm : ∀ (i : Nat) (d : Jvm.Cond), [Jvm.Cond.code Jvm.Free.SBG.GetCharsL.gcN Jvm.Free.SBG.GetCharsL.gcB 11 (some .int), Jvm.Cond.fieldLink "java/lang/Long" 133 "java/lang/Integer" "DigitOnes" "[B", Jvm.Cond.fieldLink "java/lang/Long" 137 "java/lang/Integer" "DigitTens" "[B", Jvm.Cond.constantLong "java/lang/Long" 129 (-2147483648), Jvm.Cond.constantLong "java/lang/Long" 131 100][i]? = some d → d.before a0 Z = true := fun i d q => hw d (o_in_gc d (List.mem_of_getElem? q))
  have htab : Jvm.Free.SBG.GetCharsL.tab.before args s = true := by
    simp only [Jvm.Free.SBG.GetCharsL.tab, Cond.before_and, Bool.and_eq_true]
    exact ⟨mvT hZ (hm 0 _ rfl), mvT hZ (hm 1 _ rfl), mvT hZ (hm 2 _ rfl), mvT hZ (hm 3 _ rfl), mvT hZ (hm 4 _ rfl)⟩
  have sg := o_sgn hx
  have hby : ∀ i, i < cl.slots.size → fits .byte (cl.slots.getD i .null) = true := fun i hi => by
    rw [Array.getD_eq_getD_getElem?, H i hi]; exact G i hi
  obtain ⟨v, B, X', hpost, hs⟩ := Jvm.Free.SBG.GetCharsL.pays ⟨x, x.toInt.toNat, b0 + Jvm.Free.SBG.digitsL x.toInt.toNat, t, cl, st, d1, D1, d2, D2⟩ W htab (mvT hZ (hw _ (o_in_ss _ (List.mem_of_getElem? (i := 3) rfl)))) hfr hlo m meth c A g ig mk a X hg hsize hdc hW hnm
    ⟨hp.1, hp.2.2.1, hp.2.2.2, hp.1, by rw [hp.2.1]; exact Ar.1, State.isArrayOf_alike hal Ar.2.1, Ar.2.2, by show cl.slots.size < 2 ^ 31; omega, by show b0 + Jvm.Free.SBG.digitsL x.toInt.toNat ≤ cl.slots.size; omega, by show Jvm.Free.SBG.digitsL x.toInt.toNat + Jvm.Free.SBG.GetCharsL.sgnL x ≤ b0 + Jvm.Free.SBG.digitsL x.toInt.toNat; rw [sg]; omega, o_n63 x, o_negL hx, T1', T2', lt h1s, lt h1d, lt h2d⟩
  obtain ⟨v1, v2, v3, v4, v5, v6, L, v7, v8⟩ := hpost
  obtain ⟨f1, f2, f3, f4, f5⟩ := Jvm.Free.SBG.GetCharsL.outCell_facts ⟨x, x.toInt.toNat, b0 + Jvm.Free.SBG.digitsL x.toInt.toNat, t, cl, st, d1, D1, d2, D2⟩ (o_n63 x) (by show Jvm.Free.SBG.digitsL x.toInt.toNat + Jvm.Free.SBG.GetCharsL.sgnL x ≤ b0 + Jvm.Free.SBG.digitsL x.toInt.toNat; rw [sg]; omega) hby
  obtain ⟨-, g2, g3⟩ := Jvm.Free.SBG.outCellL_fwd ⟨x, x.toInt.toNat, b0 + Jvm.Free.SBG.digitsL x.toInt.toNat, t, cl, st, d1, D1, d2, D2⟩ o1 o2 (o_n63 x) (n0 := b0) (by show b0 + Jvm.Free.SBG.digitsL x.toInt.toNat = b0 + (Jvm.Free.SBG.digitsL x.toInt.toNat + Jvm.Free.SBG.GetCharsL.sgnL x); rw [sg, Nat.add_zero]) (by show b0 + Jvm.Free.SBG.digitsL x.toInt.toNat ≤ cl.slots.size; omega)
  generalize Jvm.Free.SBG.GetCharsL.outCell ⟨x, x.toInt.toNat, b0 + Jvm.Free.SBG.digitsL x.toInt.toNat, t, cl, st, d1, D1, d2, D2⟩ = oc at v2 f1 f2 f3 f4 f5 g2 g3
  dsimp only at f1 f2 f3 f5 g2 g3 v1 v2 v6 v8
  rw [sg, Nat.add_zero] at g2
  rw [S] at f3
  have hlen : oc.slots.toList.length = cap := by rw [Array.length_toList]; exact f3
  have hgd : ∀ i, i < cap → oc.slots[i]? = some (oc.slots.toList.getD i (.int 0)) := fun i hi => by
    rw [List.getD_eq_getElem?_getD, Array.getElem?_toList, Array.getElem?_eq_getElem (by omega)]; rfl
  refine ⟨v, B, X', ⟨L, ⟨oc.slots.toList, o_digs x.toInt.toNat, ?_, fun y hy => by rw [v8 y hy]; exact gt, ⟨?_, ?_, ?_⟩, ⟨oc, ⟨v2, ⟨?_, ?_⟩, ?_⟩, ?_, ?_, Ng, ?_, ?_⟩, ⟨hlen, ?_⟩, o_digs_gs _⟩, v7, v3, v4⟩, hs⟩
  · rw [v1, sg, Nat.add_zero, Nat.add_sub_cancel]
  · rw [← hp.2.1, v5]; exact Nat.le_refl _
  · intro y cy hy ny
    exact v6 y cy (fun z => ny (by rw [z]; exact List.mem_singleton.mpr rfl)) (by rw [hp.2.1]; exact hy)
  · intro y cy hy
    by_cases z : y = t
    · rw [z] at hy ⊢
      cases hy.symm.trans Ar.1
      exact ⟨oc, v2, f1, f2, by rw [f3, S]⟩
    · exact ⟨cy, v6 y cy z (by rw [hp.2.1]; exact hy), rfl, rfl, rfl⟩
  · intro k hk; rw [f2] at hk; exact Ar.2.1.1 k hk
  · obtain ⟨-, k, hk, comp, hkind⟩ := Ar.2.1
    exact ⟨k, by rw [f1]; exact hk, comp, hkind⟩
  · rw [f2]; exact Ar.2.2
  · rw [f1]; exact q1
  · rw [f3, eS]
  · intro i hi; exact hgd i (by omega)
  · intro i hi
    have q := f4 i hi
    rw [Array.getD_eq_getD_getElem?, hgd i (by omega)] at q; exact q
  · apply List.ext_getElem?
    intro i
    have e1 : (ds.take b0).length = b0 := by rw [List.length_take]; omega
    by_cases h1 : i < b0
    · rw [List.getElem?_take_of_lt (by omega), Array.getElem?_toList, g3 i h1, H i (by omega), List.getElem?_append_left (by omega), List.getElem?_take_of_lt h1, List.getElem?_eq_getElem (by omega), List.getD_eq_getElem?_getD, List.getElem?_eq_getElem (by omega)]
      rfl
    · by_cases h2 : i < b0 + Jvm.Free.SBG.digitsL x.toInt.toNat
      · have g := g2 (i - b0) (by omega)
        rw [show b0 + (i - b0) = i by omega] at g
        rw [List.getElem?_take_of_lt h2, Array.getElem?_toList, g, List.getElem?_append_right (by omega), e1, o_digs_at (by omega)]
      · rw [List.getElem?_eq_none (by rw [List.length_take, hlen]; omega), List.getElem?_eq_none (by rw [List.length_append, e1, o_by_len, o_digs_len]; omega)]

theorem o_charsJ {ds es : List Value} {cap c2 D : Nat} {cs0 cs : List Int32} (h : ds.length = cap ∧ ds.take cs0.length = o_by cs0) (hD : cs.length = D) (q : es.length = c2 ∧ es.take (cs0.length + cs.length) = ds.take cs0.length ++ o_by cs) : es.length = c2 ∧ es.take (cs0 ++ cs).length = o_by (cs0 ++ cs) := o_chars h q
def Q_rmAj (Z : State) (b : Addr) (t : Addr) (kt : ClassId) (cap : Nat) (ds : List Value) (us : List Int32) (vv : Int64) (h0 : Heap) (n0 : Nat) (v : Option Value) (h : Heap) (L : List Loc) : Prop := ∃ t2 : Addr, ∃ k2 : ClassId, ∃ es : List Value, ∃ gs : List Int32, v = some (.ref b) ∧ Fr n0 L ∧ Keep h0 h [b, t] ∧ Exa Z h b oB ∧ Fld Z h b oA "value" "[B" (.ref t2) ∧ Fld Z h b oA "coder" "B" (.int (0 : Int32)) ∧ Fld Z h b oA "count" "I" (.int (Int32.ofNat (List.length (us ++ gs)))) ∧ Arv Z h t2 k2 .byte (Int32.ofNat (o_cap cap (List.length us + (Jvm.Free.SBG.digitsL vv.toInt.toNat)))) es (.int (0 : Int32)) ∧ Exa Z h t2 "[B" ∧ (es.length = (o_cap cap (List.length us + (Jvm.Free.SBG.digitsL vv.toInt.toNat))) ∧ es.take (List.length (us ++ gs)) = o_by (us ++ gs)) ∧ (t2 = t ∨ h0.size ≤ t2) ∧ n0 ≤ t2 ∧ b ≠ t2 ∧ o_gs vv.toInt.toNat gs ∧ True
theorem o_h421 : decode jdk_68_method_33_code 0 = .ok (.aload_n 0, 1) := by decide +kernel
theorem o_h422 : decode jdk_68_method_33_code 1 = .ok (.getfield 79, 3) := by decide +kernel
theorem o_h423 : decode jdk_68_method_33_code 4 = .ok (.istore_n 3, 1) := by decide +kernel
theorem o_h424 : decode jdk_68_method_33_code 5 = .ok (.iload_n 3, 1) := by decide +kernel
theorem o_h425 : decode jdk_68_method_33_code 6 = .ok (.lload_n 1, 1) := by decide +kernel
theorem o_h426 : decode jdk_68_method_33_code 7 = .ok (.invokestatic 254, 3) := by decide +kernel
theorem o_h427 : parseMethodDescriptor "(J)I" = some ⟨[.long], some .int⟩ := by decide +kernel
theorem o_h428 : decode jdk_68_method_33_code 10 = .ok (.iadd, 1) := by decide +kernel
theorem o_h429 : decode jdk_68_method_33_code 11 = .ok (.istore 4, 2) := by decide +kernel
theorem o_h430 : decode jdk_68_method_33_code 13 = .ok (.aload_n 0, 1) := by decide +kernel
theorem o_h431 : decode jdk_68_method_33_code 14 = .ok (.iload 4, 2) := by decide +kernel
theorem o_h432 : decode jdk_68_method_33_code 16 = .ok (.invokevirtual 100, 3) := by decide +kernel
theorem o_h433 : decode jdk_68_method_33_code 19 = .ok (.aload_n 0, 1) := by decide +kernel
theorem o_h434 : decode jdk_68_method_33_code 20 = .ok (.invokevirtual 83, 3) := by decide +kernel
theorem o_h435 : decode jdk_68_method_33_code 23 = .ok (.ifCond .eq 17, 3) := by decide +kernel
theorem o_h436 : decode jdk_68_method_33_code 26 = .ok (.lload_n 1, 1) := by decide +kernel
theorem o_h437 : decode jdk_68_method_33_code 27 = .ok (.iload 4, 2) := by decide +kernel
theorem o_h438 : decode jdk_68_method_33_code 29 = .ok (.aload_n 0, 1) := by decide +kernel
theorem o_h439 : decode jdk_68_method_33_code 30 = .ok (.getfield 15, 3) := by decide +kernel
theorem o_h440 : decode jdk_68_method_33_code 33 = .ok (.invokestatic 259, 3) := by decide +kernel
theorem o_h441 : parseMethodDescriptor "(JI[B)I" = some ⟨[.long, .int, .array .byte], some .int⟩ := by decide +kernel
theorem o_h442 : decode jdk_68_method_33_code 36 = .ok (.pop, 1) := by decide +kernel
theorem o_h443 : decode jdk_68_method_33_code 37 = .ok (.goto 15, 3) := by decide +kernel
theorem o_h444 : decode jdk_68_method_33_code 52 = .ok (.aload_n 0, 1) := by decide +kernel
theorem o_h445 : decode jdk_68_method_33_code 53 = .ok (.iload 4, 2) := by decide +kernel
theorem o_h446 : decode jdk_68_method_33_code 55 = .ok (.putfield 79, 3) := by decide +kernel
theorem o_h447 : decode jdk_68_method_33_code 58 = .ok (.aload_n 0, 1) := by decide +kernel
theorem o_h448 : decode jdk_68_method_33_code 59 = .ok (.areturn, 1) := by decide +kernel
theorem rmAj (l : Launch) (Z : State) (a0 : Array Value) (hw : ∀ d ∈ tables_1, d.before a0 Z = true) (ws : List Jvm.Cond) (b : Addr) (t : Addr) (kt : ClassId) (cap : Nat) (ds : List Value) (us : List Int32) (vv : Int64) (h0 : Heap) (n0 : Nat) (Z0 : n0 ≤ h0.size) (f0_ : Exa Z h0 b oB) (f1_ : Fld Z h0 b oA "value" "[B" (.ref t)) (f2_ : Fld Z h0 b oA "coder" "B" (.int (0 : Int32))) (f3_ : Fld Z h0 b oA "count" "I" (.int (Int32.ofNat (List.length us)))) (f4_ : Arv Z h0 t kt .byte (Int32.ofNat cap) ds (.int (0 : Int32))) (f5_ : Exa Z h0 t "[B") (hdc : ds.length = cap ∧ ds.take (List.length us) = o_by us) (hn : List.length us ≤ cap) (hcap : o_cap cap (List.length us + (Jvm.Free.SBG.digitsL vv.toInt.toNat)) ≤ 160) (hv : 0 ≤ vv.toInt) (f10_ : n0 ≤ b) (f11_ : n0 ≤ t) (f12_ : b ≠ t) (f13_ : Old Z n0 h0) (ci : Int32) (sC : Sta Z Z.heap oS "COMPACT_STRINGS" "Z" (.int ci)) (hc : ¬ ci = 0) (hdg : o_Dig Z) :
    o_Met l (⟨oA, "append", "(J)Ljava/lang/AbstractStringBuilder;"⟩ : MethodName) jdk_68_method_33_code 5 (some (.object oA)) ws (rO 4 1 160 102) #[.ref b, .long vv] Z h0 (Q_rmAj Z b t kt cap ds us vv h0 n0) := by
 refine MetFree.of_bodySF (plainFor_of_name o_h33) hisR ?_
 intro p e s m args below meth c s₁ Bd hml0 hP hK
 obtain ⟨rfl, hZ, hh⟩ := hP
 have hx := Bd.exec
 have hby := Bd.bytes
 have hml : c.maxLocals = 5 := hml0
 have hown : s.vm.findClass oA = some m.cls := findClass_of_methodNamed Bd.named
 have hnm := (name_of_methodNamed Bd.named Bd.method).1
 have X0 : Stand p l e (rO 4 1 160 102) s m #[.ref b, .long vv] below meth c s₁ [] 0 0 := Stand.of_body Bd
 have e0 : s₁.heap = h0 := by rw [← hh, Bd.state]; rfl
 have N0 := Fr.nil n0
 obtain ⟨B_, hB_⟩ : ∃ z, z = s₁.setTop (entryFrame m #[.ref b, .long vv] 5) := ⟨_, rfl⟩
 have k0 : o_K p e below (s₁.setTop (mkF m 0 #[.val (.ref b), .val (.long vv), .second, .unset, .unset] [])) B_ := by rw [hB_]; exact fun t k => castTop (by clear k; first | (simp [entryFrame, mkF, argsToLocals, Value.category, maxLocals]; done) | rfl) k
 have K0 : Keep h0 h0 [b, t] := Keep.refl _ _
 have k1 : o_J p e below s₁ m 1 #[vR b, vL vv, .second, .unset, .unset] [.ref b] B_ := fun t_ hh => k0 t_ (by
  refine XS.aloadN X0.here hx rfl (hb hby o_h421) rfl rfl ?_
  exact hh)
 obtain ⟨T21, X22, e23, st24⟩ := getF X0 hx hZ hown (host := "") (Or.inl (wT hw 87 rfl)) Via.refl e0 f3_ (g := (mkF m 1 #[vR b, vL vv, .second, .unset, .unset] [.ref b])) rfl rfl (hb hby o_h422)
 have k2 : o_J p e below T21 m 4 #[vR b, vL vv, .second, .unset, .unset] [(.int (Int32.ofNat (List.length us)))] B_ := fun t_ hh => k1 t_ (st24 t_ hh)
 clear k1 st24
 have k3 : o_J p e below T21 m 7 #[vR b, vL vv, .second, vI (Int32.ofNat (List.length us)), .unset] [.long vv, (.int (Int32.ofNat (List.length us)))] B_ := fun t_ hh => k2 t_ (by
  refine XS.istoreN X22.here hx rfl (hb hby o_h423) rfl (l' := #[vR b, vL vv, .second, vI (Int32.ofNat (List.length us)), .unset]) rfl ?_
  refine XS.iloadN X22.here hx rfl (hb hby o_h424) rfl ?_
  refine XS.lloadN X22.here hx rfl (hb hby o_h425) rfl ?_
  exact hh)
 clear k2
 obtain ⟨_, _, ⟨T25, L26, k_27, n_28⟩, -, X29, ⟨Lc30, hQ31, l_32, y_33, z_34⟩, st35⟩ := Jvm.LawKit.callS X22 hx (y := ⟨"java/lang/Long", "stringSize", "(J)I"⟩) hown (mvT hZ (wT hw 192 rfl)) (mvT hZ (wT hw 193 rfl)) (mvT hZ (wT hw 194 rfl)) (mvT hZ (wT hw 195 rfl)) (by decide) (o_ssBack (W := 1) (n0 := n0) hZ hw vv hv (by decide) (by decide)) (g := (mkF m 7 #[vR b, vL vv, .second, vI (Int32.ofNat (List.length us)), .unset] [.long vv, (.int (Int32.ofNat (List.length us)))])) rfl (by rw [hml]; rfl) (argsL := [.long vv]) (rest := [(.int (Int32.ofNat (List.length us)))]) (lenOf o_h427 rfl) rfl (o_w0 rfl) (hb hby o_h426) (fun _ _ => ⟨rfl, e23, o_l rfl, o_l rfl⟩)
 dsimp only [Pt.U, Pt.locs, Pt.cells, Pt.slots] at X29 l_32 y_33 z_34 st35 hQ31
 subst l_32 y_33 z_34
 obtain ⟨rfl, N36, e37⟩ := hQ31
 have N38 := Fr.app N0 N36
 have k4 : o_J p e below T25 m 10 #[vR b, vL vv, .second, vI (Int32.ofNat (List.length us)), .unset] [(.int (Int32.ofNat (Jvm.Free.SBG.digitsL vv.toInt.toNat))), (.int (Int32.ofNat (List.length us)))] B_ := fun t_ hh => k3 t_ (st35 t_ hh)
 clear k3 st35 X22 e23
 have k5 : o_J p e below T25 m 11 #[vR b, vL vv, .second, vI (Int32.ofNat (List.length us)), .unset] [(.int ((Int32.ofNat (List.length us)) + (Int32.ofNat (Jvm.Free.SBG.digitsL vv.toInt.toNat))))] B_ := fun t_ hh => k4 t_ (by
  refine XS.iadd X29.here hx rfl (hb hby o_h428) rfl ?_
  exact hh)
 clear k4
 have k6 : o_J p e below T25 m 11 #[vR b, vL vv, .second, vI (Int32.ofNat (List.length us)), .unset] [(.int (Int32.ofNat (List.length us + (Jvm.Free.SBG.digitsL vv.toInt.toNat))))] B_ := by have q := k5; rw [o_addN] at q; exact q
 have k7 : o_J p e below T25 m 16 #[vR b, vL vv, .second, vI (Int32.ofNat (List.length us)), vI (Int32.ofNat (List.length us + (Jvm.Free.SBG.digitsL vv.toInt.toNat)))] [(.int (Int32.ofNat (List.length us + (Jvm.Free.SBG.digitsL vv.toInt.toNat)))), .ref b] B_ := fun t_ hh => k6 t_ (by
  refine XS.istore X29.here hx rfl (hb hby o_h429) rfl (l' := #[vR b, vL vv, .second, vI (Int32.ofNat (List.length us)), vI (Int32.ofNat (List.length us + (Jvm.Free.SBG.digitsL vv.toInt.toNat)))]) rfl ?_
  refine XS.aloadN X29.here hx rfl (hb hby o_h430) rfl rfl ?_
  refine XS.iload X29.here hx rfl (hb hby o_h431) rfl ?_
  exact hh)
 clear k6
 by_cases hgr : (List.length us + (Jvm.Free.SBG.digitsL vv.toInt.toNat)) ≤ cap
 ·
  have hcc : o_cap cap (List.length us + (Jvm.Free.SBG.digitsL vv.toInt.toNat)) = cap := o_cap_same hgr
  have hcb : cap ≤ 160 := by rw [← hcc]; exact hcap
  obtain ⟨cq50, qa51, qb52⟩ := f0_.cell
  obtain ⟨_, _, ⟨T39, L40, k_41, n_42⟩, -, X43, ⟨Lc44, hQ45, l_46, y_47, z_48⟩, st49⟩ := X29.privateBack hx (y := ⟨oA, "ensureCapacityInternal", "(I)V"⟩) hown (mvT hZ (wT hw 89 rfl)) (mvT hZ (wT hw 90 rfl)) (o_selSelf (mvT hZ (wT hw 92 rfl)) (Cond.privateMethod_at (mvP hZ (wT hw 91 rfl) (args := #[]))) (mvT hZ (wT hw 90 rfl)) (by decide)) (Cond.privateMethod_at (mvP hZ (wT hw 91 rfl) (args := #[]))) (mvT hZ (wT hw 93 rfl)) (by decide) (backOf (W := 0) (rmEn0 l Z a0 hw [] b t kt cap ds (List.length us + (Jvm.Free.SBG.digitsL vv.toInt.toNat)) h0 n0 Z0 f1_ f2_ f4_ hgr hcb ) hZ (wT hw 93 rfl) (wT hw 51 rfl) (by decide) (by decide)) (g := (mkF m 16 #[vR b, vL vv, .second, vI (Int32.ofNat (List.length us)), vI (Int32.ofNat (List.length us + (Jvm.Free.SBG.digitsL vv.toInt.toNat)))] [(.int (Int32.ofNat (List.length us + (Jvm.Free.SBG.digitsL vv.toInt.toNat)))), .ref b])) rfl (by rw [hml]; rfl) (Steps.refl _) (a := b) (by rw [e37]; exact qa51) qb52 (argsL := [(.int (Int32.ofNat (List.length us + (Jvm.Free.SBG.digitsL vv.toInt.toNat))))]) (rest := []) (lenOf o_h175 rfl) rfl (o_w0 rfl) (hb hby o_h432) (fun _ _ => ⟨rfl, e37, o_l rfl, o_l rfl⟩)
  dsimp only [Pt.U, Pt.locs, Pt.cells, Pt.slots] at X43 l_46 y_47 z_48 st49 hQ45
  subst l_46 y_47 z_48
  obtain ⟨rfl, N53, e54⟩ := hQ45
  have N55 := Fr.app N38 N53
  have k8 : o_J p e below T39 m 19 #[vR b, vL vv, .second, vI (Int32.ofNat (List.length us)), vI (Int32.ofNat (List.length us + (Jvm.Free.SBG.digitsL vv.toInt.toNat)))] [] B_ := fun t_ hh => k7 t_ (st49.trans hh)
  clear k7 st49 X29 e37
  have k9 : o_J p e below T39 m 20 #[vR b, vL vv, .second, vI (Int32.ofNat (List.length us)), vI (Int32.ofNat (List.length us + (Jvm.Free.SBG.digitsL vv.toInt.toNat)))] [.ref b] B_ := fun t_ hh => k8 t_ (by
   refine XS.aloadN X43.here hx rfl (hb hby o_h433) rfl rfl ?_
   exact hh)
  clear k8
  obtain ⟨cq67, kq68, qa69, qb70, qc71⟩ := isOf hZ e54 f0_
  obtain ⟨_, _, ⟨T56, L57, k_58, n_59⟩, -, X60, ⟨Lc61, hQ62, l_63, y_64, z_65⟩, st66⟩ := X43.virtualBack hx (y := ⟨oA, "isLatin1", "()Z"⟩) (z := ⟨oA, "isLatin1", "()Z"⟩) hown (mvT hZ (wT hw 197 rfl)) (mvT hZ (wT hw 164 rfl)) (notFace_of_selects (args := #[]) (mvT hZ (wT hw 166 rfl))) (mvT hZ (wT hw 166 rfl)) (mvT hZ (wT hw 165 rfl)) (by decide) (backOf (W := 0) (rmIl l Z a0 hw [] b h0 n0 Z0 f2_ f13_ ci sC hc) hZ (wT hw 167 rfl) (wT hw 51 rfl) (by decide) (by decide)) qa69 qc71 (g := (mkF m 20 #[vR b, vL vv, .second, vI (Int32.ofNat (List.length us)), vI (Int32.ofNat (List.length us + (Jvm.Free.SBG.digitsL vv.toInt.toNat)))] [.ref b])) rfl (by rw [hml]; rfl) (Steps.refl _) (argsL := []) (rest := []) (lenOf o_h287 rfl) rfl (o_w0 rfl) (hb hby o_h434) (fun _ _ => ⟨rfl, e54, o_l rfl, o_l rfl⟩)
  dsimp only [Pt.U, Pt.locs, Pt.cells, Pt.slots] at X60 l_63 y_64 z_65 st66 hQ62
  subst l_63 y_64 z_65
  obtain ⟨rfl, N72, e73⟩ := hQ62
  have N74 := Fr.app N55 N72
  have k10 : o_J p e below T56 m 23 #[vR b, vL vv, .second, vI (Int32.ofNat (List.length us)), vI (Int32.ofNat (List.length us + (Jvm.Free.SBG.digitsL vv.toInt.toNat)))] [(.int 1)] B_ := fun t_ hh => k9 t_ (st66.trans hh)
  clear k9 st66 X43 e54
  have k11 : o_J p e below T56 m 30 #[vR b, vL vv, .second, vI (Int32.ofNat (List.length us)), vI (Int32.ofNat (List.length us + (Jvm.Free.SBG.digitsL vv.toInt.toNat)))] [.ref b, (.int (Int32.ofNat (List.length us + (Jvm.Free.SBG.digitsL vv.toInt.toNat)))), .long vv] B_ := fun t_ hh => k10 t_ (by
   refine XS.ifNo X60.here hx rfl (hb hby o_h435) rfl (by decide) ?_
   refine XS.lloadN X60.here hx rfl (hb hby o_h436) rfl ?_
   refine XS.iload X60.here hx rfl (hb hby o_h437) rfl ?_
   refine XS.aloadN X60.here hx rfl (hb hby o_h438) rfl rfl ?_
   exact hh)
  clear k10
  obtain ⟨T75, X76, e77, st78⟩ := getF X60 hx hZ hown (host := "") (Or.inl (wT hw 55 rfl)) Via.refl e73 f1_ (g := (mkF m 30 #[vR b, vL vv, .second, vI (Int32.ofNat (List.length us)), vI (Int32.ofNat (List.length us + (Jvm.Free.SBG.digitsL vv.toInt.toNat)))] [.ref b, (.int (Int32.ofNat (List.length us + (Jvm.Free.SBG.digitsL vv.toInt.toNat)))), .long vv])) rfl rfl (hb hby o_h439)
  have k12 : o_J p e below T75 m 33 #[vR b, vL vv, .second, vI (Int32.ofNat (List.length us)), vI (Int32.ofNat (List.length us + (Jvm.Free.SBG.digitsL vv.toInt.toNat)))] [.ref t, (.int (Int32.ofNat (List.length us + (Jvm.Free.SBG.digitsL vv.toInt.toNat)))), .long vv] B_ := fun t_ hh => k11 t_ (st78 t_ hh)
  clear k11 st78 X60 e73
  obtain ⟨_, _, ⟨T79, L80, k_81, n_82⟩, -, X83, ⟨Lc84, hQ85, l_86, y_87, z_88⟩, st89⟩ := Jvm.LawKit.callS X76 hx (y := ⟨"java/lang/Long", "getChars", "(JI[B)I"⟩) hown (mvT hZ (wT hw 198 rfl)) (mvT hZ (wT hw 199 rfl)) (mvT hZ (wT hw 194 rfl)) (mvT hZ (wT hw 200 rfl)) (by decide) (o_gcBack (W := 0) (n0 := n0) hZ hw hdg f13_ f4_ (Nat.le_trans hcb (o_l rfl)) hdc.1 f11_ vv hv (List.length us) hgr (by decide) (by decide)) (g := (mkF m 33 #[vR b, vL vv, .second, vI (Int32.ofNat (List.length us)), vI (Int32.ofNat (List.length us + (Jvm.Free.SBG.digitsL vv.toInt.toNat)))] [.ref t, (.int (Int32.ofNat (List.length us + (Jvm.Free.SBG.digitsL vv.toInt.toNat)))), .long vv])) rfl (by rw [hml]; rfl) (argsL := [.long vv, (.int (Int32.ofNat (List.length us + (Jvm.Free.SBG.digitsL vv.toInt.toNat)))), .ref t]) (rest := []) (lenOf o_h441 rfl) rfl (o_w0 rfl) (hb hby o_h440) (fun _ _ => ⟨rfl, e77, o_l rfl, o_l rfl⟩)
  dsimp only [Pt.U, Pt.locs, Pt.cells, Pt.slots] at X83 l_86 y_87 z_88 st89 hQ85
  subst l_86 y_87 z_88
  obtain ⟨es90, gs91, rfl, N92, K93, F94, H95, Hg96⟩ := hQ85
  have N97 := Fr.app N74 N92
  have F98 := f0_.keep K93
  have F99 := f1_.keep K93 (ninS f12_ nin0)
  have F100 := f2_.keep K93 (ninS f12_ nin0)
  have F101 := f3_.keep K93 (ninS f12_ nin0)
  have F102 := f5_.keep K93
  have Z103 : n0 ≤ T79.heap.size := Nat.le_trans Z0 K93.1
  have O104 := f13_.keep K93 (allS f11_ all0)
  have P105 : Keep h0 T79.heap [b, t] := K0.trans K93 (allS (P := fun x => x ∈ [b, t] ∨ h0.size ≤ x) (Or.inl (List.mem_of_getElem? (i := 1) rfl)) all0)
  have e106 : T79.heap = T79.heap := rfl
  have k13 : o_J p e below T79 m 36 #[vR b, vL vv, .second, vI (Int32.ofNat (List.length us)), vI (Int32.ofNat (List.length us + (Jvm.Free.SBG.digitsL vv.toInt.toNat)))] [(.int (Int32.ofNat (List.length us)))] B_ := fun t_ hh => k12 t_ (st89 t_ hh)
  clear k12 st89 X76 e77
  have k14 : o_J p e below T79 m 55 #[vR b, vL vv, .second, vI (Int32.ofNat (List.length us)), vI (Int32.ofNat (List.length us + (Jvm.Free.SBG.digitsL vv.toInt.toNat)))] [(.int (Int32.ofNat (List.length us + (Jvm.Free.SBG.digitsL vv.toInt.toNat)))), .ref b] B_ := fun t_ hh => k13 t_ (by
   refine XS.pop X83.here hx rfl (hb hby o_h442) rfl rfl ?_
   refine XS.goto X83.here hx rfl (pc0 := 37) (pc' := 52) rfl (hb hby o_h443) (by decide) (by decide) ?_
   refine XS.aloadN X83.here hx rfl (hb hby o_h444) rfl rfl ?_
   refine XS.iload X83.here hx rfl (hb hby o_h445) rfl ?_
   exact hh)
  clear k13
  obtain ⟨T107, h108, X109, e110, W111, st112⟩ := putF X83 hx hZ hown (host := "") (Or.inl (wT hw 87 rfl)) Via.refl e106 F101 F98 (Or.inl (wT hw 88 rfl)) (wT hw 42 rfl) (ty := .int) (by decide) rfl rfl (g := (mkF m 55 #[vR b, vL vv, .second, vI (Int32.ofNat (List.length us)), vI (Int32.ofNat (List.length us + (Jvm.Free.SBG.digitsL vv.toInt.toNat)))] [(.int (Int32.ofNat (List.length us + (Jvm.Free.SBG.digitsL vv.toInt.toNat)))), .ref b])) rfl rfl (hb hby o_h446)
  have N113 := Fr.snoc X109 N97 f10_
  have F114 := Exa.wr W111 F98
  have F115 := Fld.other W111 F99 (Or.inr (slot_ne (Or.inl (wT hw 56 rfl)) (Or.inl (wT hw 88 rfl)) (by decide) (t := (.array .byte)) (t' := .int) (by decide) (by decide)))
  have F116 := Fld.other W111 F100 (Or.inr (slot_ne (Or.inl (wT hw 58 rfl)) (Or.inl (wT hw 88 rfl)) (by decide) (t := .byte) (t' := .int) (by decide) (by decide)))
  have F117 : Fld Z h108 b oA "count" "I" (.int (Int32.ofNat (List.length us + (Jvm.Free.SBG.digitsL vv.toInt.toNat)))) := Fld.same W111 F101
  have F118 := Exa.wr W111 F102
  have F120 := F94.other W111 (Ne.symm f12_)
  have Z121 : n0 ≤ h108.size := W111.size ▸ Z103
  have O122 := O104.wr W111 f10_
  have P123 : Keep h0 h108 [b, t] := P105.wr W111 (Or.inl (List.mem_of_getElem? (i := 0) rfl))
  have k15 : o_J p e below T107 m 58 #[vR b, vL vv, .second, vI (Int32.ofNat (List.length us)), vI (Int32.ofNat (List.length us + (Jvm.Free.SBG.digitsL vv.toInt.toNat)))] [] B_ := fun t_ hh => k14 t_ (st112 t_ hh)
  clear k14 st112 X83 e106
  have F124 : Arv Z h108 t kt .byte (Int32.ofNat (o_cap cap (List.length us + (Jvm.Free.SBG.digitsL vv.toInt.toNat)))) es90 (.int 0) := by rw [hcc]; exact F120
  have F125 : Fld Z h108 b oA "count" "I" (.int (Int32.ofNat (List.length (us ++ gs91)))) := by rw [List.length_append, Hg96.1]; exact F117
  have k16 : o_J p e below T107 m 59 #[vR b, vL vv, .second, vI (Int32.ofNat (List.length us)), vI (Int32.ofNat (List.length us + (Jvm.Free.SBG.digitsL vv.toInt.toNat)))] [.ref b] B_ := fun t_ hh => k15 t_ (by
   refine XS.aloadN X109.here hx rfl (hb hby o_h447) rfl rfl ?_
   exact hh)
  clear k15
  obtain ⟨fs, hr, hrun, hended, hW, hsame⟩ := X109.leave (v := some (.ref b)) (fun h => by rw [Bd.returns] at h; cases h)
  refine ⟨_, _, (o_from hB_ (k16 _ (retOut X109 hx (t := .object oA) Bd.returns rfl (Or.inr (Or.inr (Or.inr (Or.inr ⟨rfl, rfl, rfl⟩)))) (hb hby o_h448) hr))), hrun, hended, _, _, rfl, ?_, ⟨_, rfl⟩, hW, hsame.mono (o_l rfl) (o_l rfl)⟩
  show Q_rmAj Z b t kt cap ds us vv h0 n0 _ T107.heap _
  rw [e110]
  exact ⟨t, kt, es90, gs91, rfl, N113, P123, F114, F115, F116, F125, F124, F118, (by rw [hcc]; exact o_charsJ hdc Hg96.1 (by rw [Hg96.1]; exact H95)), (Or.inl rfl), f11_, f12_, Hg96, trivial⟩
 ·
  have hcc : o_cap cap (List.length us + (Jvm.Free.SBG.digitsL vv.toInt.toNat)) = o_nc cap (List.length us + (Jvm.Free.SBG.digitsL vv.toInt.toNat)) := o_cap_grow hgr
  have hcb : o_nc cap (List.length us + (Jvm.Free.SBG.digitsL vv.toInt.toNat)) ≤ 160 := by rw [← hcc]; exact hcap
  obtain ⟨cq137, qa138, qb139⟩ := f0_.cell
  obtain ⟨_, _, ⟨T126, L127, k_128, n_129⟩, -, X130, ⟨Lc131, hQ132, l_133, y_134, z_135⟩, st136⟩ := X29.privateBack hx (y := ⟨oA, "ensureCapacityInternal", "(I)V"⟩) hown (mvT hZ (wT hw 89 rfl)) (mvT hZ (wT hw 90 rfl)) (o_selSelf (mvT hZ (wT hw 92 rfl)) (Cond.privateMethod_at (mvP hZ (wT hw 91 rfl) (args := #[]))) (mvT hZ (wT hw 90 rfl)) (by decide)) (Cond.privateMethod_at (mvP hZ (wT hw 91 rfl) (args := #[]))) (mvT hZ (wT hw 93 rfl)) (by decide) (backOf (W := 0) (rmEn1 l Z a0 hw [] b t kt cap ds (List.length us) (List.length us + (Jvm.Free.SBG.digitsL vv.toInt.toNat)) h0 n0 Z0 f0_ f1_ f2_ f3_ f4_ hdc.1 (Nat.lt_of_not_le hgr) hcb f10_ f12_ ) hZ (wT hw 93 rfl) (wT hw 51 rfl) (by decide) (by decide)) (g := (mkF m 16 #[vR b, vL vv, .second, vI (Int32.ofNat (List.length us)), vI (Int32.ofNat (List.length us + (Jvm.Free.SBG.digitsL vv.toInt.toNat)))] [(.int (Int32.ofNat (List.length us + (Jvm.Free.SBG.digitsL vv.toInt.toNat)))), .ref b])) rfl (by rw [hml]; rfl) (Steps.refl _) (a := b) (by rw [e37]; exact qa138) qb139 (argsL := [(.int (Int32.ofNat (List.length us + (Jvm.Free.SBG.digitsL vv.toInt.toNat))))]) (rest := []) (lenOf o_h175 rfl) rfl (o_w0 rfl) (hb hby o_h432) (fun _ _ => ⟨rfl, e37, o_l rfl, o_l rfl⟩)
  dsimp only [Pt.U, Pt.locs, Pt.cells, Pt.slots] at X130 l_133 y_134 z_135 st136 hQ132
  subst l_133 y_134 z_135
  obtain ⟨t2141, k2142, es143, rfl, N140, K153, F144, F145, F146, F147, F148, F149, F150, F151, F152, -⟩ := hQ132
  have N154 := Fr.app N38 N140
  have H0155 : h0.size ≤ t2141 := Nat.le_trans K0.1 F152
  have F156 := f0_.keep K153
  have F157 := f4_.keep K153 (ninS (Ne.symm f12_) nin0)
  have F158 := f5_.keep K153
  have Z159 : n0 ≤ T126.heap.size := Nat.le_trans Z0 K153.1
  have O160 := f13_.keep K153 (allS f10_ all0)
  have P161 : Keep h0 T126.heap [b, t] := K0.trans K153 (allS (P := fun x => x ∈ [b, t] ∨ h0.size ≤ x) (Or.inl (List.mem_of_getElem? (i := 0) rfl)) all0)
  have e162 : T126.heap = T126.heap := rfl
  have k17 : o_J p e below T126 m 19 #[vR b, vL vv, .second, vI (Int32.ofNat (List.length us)), vI (Int32.ofNat (List.length us + (Jvm.Free.SBG.digitsL vv.toInt.toNat)))] [] B_ := fun t_ hh => k7 t_ (st136.trans hh)
  clear k7 st136 X29 e37
  have k18 : o_J p e below T126 m 20 #[vR b, vL vv, .second, vI (Int32.ofNat (List.length us)), vI (Int32.ofNat (List.length us + (Jvm.Free.SBG.digitsL vv.toInt.toNat)))] [.ref b] B_ := fun t_ hh => k17 t_ (by
   refine XS.aloadN X130.here hx rfl (hb hby o_h433) rfl rfl ?_
   exact hh)
  clear k17
  obtain ⟨cq174, kq175, qa176, qb177, qc178⟩ := isOf hZ e162 F144
  obtain ⟨_, _, ⟨T163, L164, k_165, n_166⟩, -, X167, ⟨Lc168, hQ169, l_170, y_171, z_172⟩, st173⟩ := X130.virtualBack hx (y := ⟨oA, "isLatin1", "()Z"⟩) (z := ⟨oA, "isLatin1", "()Z"⟩) hown (mvT hZ (wT hw 197 rfl)) (mvT hZ (wT hw 164 rfl)) (notFace_of_selects (args := #[]) (mvT hZ (wT hw 166 rfl))) (mvT hZ (wT hw 166 rfl)) (mvT hZ (wT hw 165 rfl)) (by decide) (backOf (W := 0) (rmIl l Z a0 hw [] b T126.heap n0 Z159 F146 O160 ci sC hc) hZ (wT hw 167 rfl) (wT hw 51 rfl) (by decide) (by decide)) qa176 qc178 (g := (mkF m 20 #[vR b, vL vv, .second, vI (Int32.ofNat (List.length us)), vI (Int32.ofNat (List.length us + (Jvm.Free.SBG.digitsL vv.toInt.toNat)))] [.ref b])) rfl (by rw [hml]; rfl) (Steps.refl _) (argsL := []) (rest := []) (lenOf o_h287 rfl) rfl (o_w0 rfl) (hb hby o_h434) (fun _ _ => ⟨rfl, e162, o_l rfl, o_l rfl⟩)
  dsimp only [Pt.U, Pt.locs, Pt.cells, Pt.slots] at X167 l_170 y_171 z_172 st173 hQ169
  subst l_170 y_171 z_172
  obtain ⟨rfl, N179, e180⟩ := hQ169
  have N181 := Fr.app N154 N179
  have k19 : o_J p e below T163 m 23 #[vR b, vL vv, .second, vI (Int32.ofNat (List.length us)), vI (Int32.ofNat (List.length us + (Jvm.Free.SBG.digitsL vv.toInt.toNat)))] [(.int 1)] B_ := fun t_ hh => k18 t_ (st173.trans hh)
  clear k18 st173 X130 e162
  have k20 : o_J p e below T163 m 30 #[vR b, vL vv, .second, vI (Int32.ofNat (List.length us)), vI (Int32.ofNat (List.length us + (Jvm.Free.SBG.digitsL vv.toInt.toNat)))] [.ref b, (.int (Int32.ofNat (List.length us + (Jvm.Free.SBG.digitsL vv.toInt.toNat)))), .long vv] B_ := fun t_ hh => k19 t_ (by
   refine XS.ifNo X167.here hx rfl (hb hby o_h435) rfl (by decide) ?_
   refine XS.lloadN X167.here hx rfl (hb hby o_h436) rfl ?_
   refine XS.iload X167.here hx rfl (hb hby o_h437) rfl ?_
   refine XS.aloadN X167.here hx rfl (hb hby o_h438) rfl rfl ?_
   exact hh)
  clear k19
  obtain ⟨T182, X183, e184, st185⟩ := getF X167 hx hZ hown (host := "") (Or.inl (wT hw 55 rfl)) Via.refl e180 F145 (g := (mkF m 30 #[vR b, vL vv, .second, vI (Int32.ofNat (List.length us)), vI (Int32.ofNat (List.length us + (Jvm.Free.SBG.digitsL vv.toInt.toNat)))] [.ref b, (.int (Int32.ofNat (List.length us + (Jvm.Free.SBG.digitsL vv.toInt.toNat)))), .long vv])) rfl rfl (hb hby o_h439)
  have k21 : o_J p e below T182 m 33 #[vR b, vL vv, .second, vI (Int32.ofNat (List.length us)), vI (Int32.ofNat (List.length us + (Jvm.Free.SBG.digitsL vv.toInt.toNat)))] [.ref t2141, (.int (Int32.ofNat (List.length us + (Jvm.Free.SBG.digitsL vv.toInt.toNat)))), .long vv] B_ := fun t_ hh => k20 t_ (st185 t_ hh)
  clear k20 st185 X167 e180
  obtain ⟨_, _, ⟨T186, L187, k_188, n_189⟩, -, X190, ⟨Lc191, hQ192, l_193, y_194, z_195⟩, st196⟩ := Jvm.LawKit.callS X183 hx (y := ⟨"java/lang/Long", "getChars", "(JI[B)I"⟩) hown (mvT hZ (wT hw 198 rfl)) (mvT hZ (wT hw 199 rfl)) (mvT hZ (wT hw 194 rfl)) (mvT hZ (wT hw 200 rfl)) (by decide) (o_gcBack (W := 0) (n0 := n0) hZ hw hdg O160 F148 (Nat.le_trans hcb (o_l rfl)) F150.1 F151 vv hv (List.length us) o_nc_ge (by decide) (by decide)) (g := (mkF m 33 #[vR b, vL vv, .second, vI (Int32.ofNat (List.length us)), vI (Int32.ofNat (List.length us + (Jvm.Free.SBG.digitsL vv.toInt.toNat)))] [.ref t2141, (.int (Int32.ofNat (List.length us + (Jvm.Free.SBG.digitsL vv.toInt.toNat)))), .long vv])) rfl (by rw [hml]; rfl) (argsL := [.long vv, (.int (Int32.ofNat (List.length us + (Jvm.Free.SBG.digitsL vv.toInt.toNat)))), .ref t2141]) (rest := []) (lenOf o_h441 rfl) rfl (o_w0 rfl) (hb hby o_h440) (fun _ _ => ⟨rfl, e184, o_l rfl, o_l rfl⟩)
  dsimp only [Pt.U, Pt.locs, Pt.cells, Pt.slots] at X190 l_193 y_194 z_195 st196 hQ192
  subst l_193 y_194 z_195
  obtain ⟨es197, gs198, rfl, N199, K200, F201, H202, Hg203⟩ := hQ192
  have N204 := Fr.app N181 N199
  have F205 := F144.keep K200
  have ne207 : t ≠ t2141 := Nat.ne_of_lt (Nat.lt_of_lt_of_le f4_.lt F152)
  have F206 := F157.keep K200 (ninS ne207 nin0)
  have F208 := F158.keep K200
  have ne210 : b ≠ t2141 := Nat.ne_of_lt (Nat.lt_of_lt_of_le f0_.lt F152)
  have F209 := F145.keep K200 (ninS ne210 nin0)
  have F211 := F146.keep K200 (ninS ne210 nin0)
  have F212 := F147.keep K200 (ninS ne210 nin0)
  have F213 := F149.keep K200
  have Z214 : n0 ≤ T186.heap.size := Nat.le_trans Z159 K200.1
  have O215 := O160.keep K200 (allS F151 all0)
  have P216 : Keep h0 T186.heap [b, t] := P161.trans K200 (allS (P := fun x => x ∈ [b, t] ∨ h0.size ≤ x) (Or.inr H0155) all0)
  have e217 : T186.heap = T186.heap := rfl
  have k22 : o_J p e below T186 m 36 #[vR b, vL vv, .second, vI (Int32.ofNat (List.length us)), vI (Int32.ofNat (List.length us + (Jvm.Free.SBG.digitsL vv.toInt.toNat)))] [(.int (Int32.ofNat (List.length us)))] B_ := fun t_ hh => k21 t_ (st196 t_ hh)
  clear k21 st196 X183 e184
  have k23 : o_J p e below T186 m 55 #[vR b, vL vv, .second, vI (Int32.ofNat (List.length us)), vI (Int32.ofNat (List.length us + (Jvm.Free.SBG.digitsL vv.toInt.toNat)))] [(.int (Int32.ofNat (List.length us + (Jvm.Free.SBG.digitsL vv.toInt.toNat)))), .ref b] B_ := fun t_ hh => k22 t_ (by
   refine XS.pop X190.here hx rfl (hb hby o_h442) rfl rfl ?_
   refine XS.goto X190.here hx rfl (pc0 := 37) (pc' := 52) rfl (hb hby o_h443) (by decide) (by decide) ?_
   refine XS.aloadN X190.here hx rfl (hb hby o_h444) rfl rfl ?_
   refine XS.iload X190.here hx rfl (hb hby o_h445) rfl ?_
   exact hh)
  clear k22
  obtain ⟨T218, h219, X220, e221, W222, st223⟩ := putF X190 hx hZ hown (host := "") (Or.inl (wT hw 87 rfl)) Via.refl e217 F212 F205 (Or.inl (wT hw 88 rfl)) (wT hw 42 rfl) (ty := .int) (by decide) rfl rfl (g := (mkF m 55 #[vR b, vL vv, .second, vI (Int32.ofNat (List.length us)), vI (Int32.ofNat (List.length us + (Jvm.Free.SBG.digitsL vv.toInt.toNat)))] [(.int (Int32.ofNat (List.length us + (Jvm.Free.SBG.digitsL vv.toInt.toNat)))), .ref b])) rfl rfl (hb hby o_h446)
  have N224 := Fr.snoc X220 N204 f10_
  have F225 := Exa.wr W222 F205
  have F226 := F206.other W222 (Ne.symm f12_)
  have F227 := Exa.wr W222 F208
  have F229 := Fld.other W222 F209 (Or.inr (slot_ne (Or.inl (wT hw 56 rfl)) (Or.inl (wT hw 88 rfl)) (by decide) (t := (.array .byte)) (t' := .int) (by decide) (by decide)))
  have F230 := Fld.other W222 F211 (Or.inr (slot_ne (Or.inl (wT hw 58 rfl)) (Or.inl (wT hw 88 rfl)) (by decide) (t := .byte) (t' := .int) (by decide) (by decide)))
  have F231 : Fld Z h219 b oA "count" "I" (.int (Int32.ofNat (List.length us + (Jvm.Free.SBG.digitsL vv.toInt.toNat)))) := Fld.same W222 F212
  have F232 := Exa.wr W222 F213
  have F233 := F201.other W222 (Ne.symm ne210)
  have Z234 : n0 ≤ h219.size := W222.size ▸ Z214
  have O235 := O215.wr W222 f10_
  have P236 : Keep h0 h219 [b, t] := P216.wr W222 (Or.inl (List.mem_of_getElem? (i := 0) rfl))
  have k24 : o_J p e below T218 m 58 #[vR b, vL vv, .second, vI (Int32.ofNat (List.length us)), vI (Int32.ofNat (List.length us + (Jvm.Free.SBG.digitsL vv.toInt.toNat)))] [] B_ := fun t_ hh => k23 t_ (st223 t_ hh)
  clear k23 st223 X190 e217
  have F237 : Arv Z h219 t2141 k2142 .byte (Int32.ofNat (o_cap cap (List.length us + (Jvm.Free.SBG.digitsL vv.toInt.toNat)))) es197 (.int 0) := by rw [hcc]; exact F233
  have F238 : Fld Z h219 b oA "count" "I" (.int (Int32.ofNat (List.length (us ++ gs198)))) := by rw [List.length_append, Hg203.1]; exact F231
  have k25 : o_J p e below T218 m 59 #[vR b, vL vv, .second, vI (Int32.ofNat (List.length us)), vI (Int32.ofNat (List.length us + (Jvm.Free.SBG.digitsL vv.toInt.toNat)))] [.ref b] B_ := fun t_ hh => k24 t_ (by
   refine XS.aloadN X220.here hx rfl (hb hby o_h447) rfl rfl ?_
   exact hh)
  clear k24
  obtain ⟨fs, hr, hrun, hended, hW, hsame⟩ := X220.leave (v := some (.ref b)) (fun h => by rw [Bd.returns] at h; cases h)
  refine ⟨_, _, (o_from hB_ (k25 _ (retOut X220 hx (t := .object oA) Bd.returns rfl (Or.inr (Or.inr (Or.inr (Or.inr ⟨rfl, rfl, rfl⟩)))) (hb hby o_h448) hr))), hrun, hended, _, _, rfl, ?_, ⟨_, rfl⟩, hW, hsame.mono (o_l rfl) (o_l rfl)⟩
  show Q_rmAj Z b t kt cap ds us vv h0 n0 _ T218.heap _
  rw [e221]
  exact ⟨t2141, k2142, es197, gs198, rfl, N224, P236, F225, F229, F230, F238, F237, F232, (by rw [hcc]; exact o_charsJ hdc Hg203.1 (o_two hn F150 (by rw [Hg203.1]; exact H202))), (Or.inr H0155), F151, ne210, Hg203, trivial⟩
def Q_rmSj (Z : State) (b : Addr) (t : Addr) (kt : ClassId) (cap : Nat) (ds : List Value) (us : List Int32) (vv : Int64) (h0 : Heap) (n0 : Nat) (v : Option Value) (h : Heap) (L : List Loc) : Prop := ∃ t2 : Addr, ∃ k2 : ClassId, ∃ es : List Value, ∃ gs : List Int32, v = some (.ref b) ∧ Fr n0 L ∧ Keep h0 h [b, t] ∧ Exa Z h b oB ∧ Fld Z h b oA "value" "[B" (.ref t2) ∧ Fld Z h b oA "coder" "B" (.int (0 : Int32)) ∧ Fld Z h b oA "count" "I" (.int (Int32.ofNat (List.length (us ++ gs)))) ∧ Arv Z h t2 k2 .byte (Int32.ofNat (o_cap cap (List.length us + (Jvm.Free.SBG.digitsL vv.toInt.toNat)))) es (.int (0 : Int32)) ∧ Exa Z h t2 "[B" ∧ (es.length = (o_cap cap (List.length us + (Jvm.Free.SBG.digitsL vv.toInt.toNat))) ∧ es.take (List.length (us ++ gs)) = o_by (us ++ gs)) ∧ (t2 = t ∨ h0.size ≤ t2) ∧ n0 ≤ t2 ∧ b ≠ t2 ∧ o_gs vv.toInt.toNat gs ∧ True
theorem o_h449 : decode jdk_67_method_16_code 0 = .ok (.aload_n 0, 1) := by decide +kernel
theorem o_h450 : decode jdk_67_method_16_code 1 = .ok (.lload_n 1, 1) := by decide +kernel
theorem o_h451 : decode jdk_67_method_16_code 2 = .ok (.invokespecial 56, 3) := by decide +kernel
theorem o_h452 : parseMethodDescriptor "(J)Ljava/lang/AbstractStringBuilder;" = some ⟨[.long], some (.object oA)⟩ := by decide +kernel
theorem o_h453 : decode jdk_67_method_16_code 5 = .ok (.pop, 1) := by decide +kernel
theorem o_h454 : decode jdk_67_method_16_code 6 = .ok (.aload_n 0, 1) := by decide +kernel
theorem o_h455 : decode jdk_67_method_16_code 7 = .ok (.areturn, 1) := by decide +kernel
theorem rmSj (l : Launch) (Z : State) (a0 : Array Value) (hw : ∀ d ∈ tables_1, d.before a0 Z = true) (ws : List Jvm.Cond) (b : Addr) (t : Addr) (kt : ClassId) (cap : Nat) (ds : List Value) (us : List Int32) (vv : Int64) (h0 : Heap) (n0 : Nat) (Z0 : n0 ≤ h0.size) (f0_ : Exa Z h0 b oB) (f1_ : Fld Z h0 b oA "value" "[B" (.ref t)) (f2_ : Fld Z h0 b oA "coder" "B" (.int (0 : Int32))) (f3_ : Fld Z h0 b oA "count" "I" (.int (Int32.ofNat (List.length us)))) (f4_ : Arv Z h0 t kt .byte (Int32.ofNat cap) ds (.int (0 : Int32))) (f5_ : Exa Z h0 t "[B") (hdc : ds.length = cap ∧ ds.take (List.length us) = o_by us) (hn : List.length us ≤ cap) (hcap : o_cap cap (List.length us + (Jvm.Free.SBG.digitsL vv.toInt.toNat)) ≤ 160) (hv : 0 ≤ vv.toInt) (f10_ : n0 ≤ b) (f11_ : n0 ≤ t) (f12_ : b ≠ t) (f13_ : Old Z n0 h0) (ci : Int32) (sC : Sta Z Z.heap oS "COMPACT_STRINGS" "Z" (.int ci)) (hc : ¬ ci = 0) (hdg : o_Dig Z) :
    o_Met l (⟨oB, "append", "(J)Ljava/lang/StringBuilder;"⟩ : MethodName) jdk_67_method_16_code 3 (some (.object oB)) ws (rO 5 1 160 118) #[.ref b, .long vv] Z h0 (Q_rmSj Z b t kt cap ds us vv h0 n0) := by
 refine MetFree.of_bodySF (plainFor_of_name o_h190) hisR ?_
 intro p e s m args below meth c s₁ Bd hml0 hP hK
 obtain ⟨rfl, hZ, hh⟩ := hP
 have hx := Bd.exec
 have hby := Bd.bytes
 have hml : c.maxLocals = 3 := hml0
 have hown : s.vm.findClass oB = some m.cls := findClass_of_methodNamed Bd.named
 have hnm := (name_of_methodNamed Bd.named Bd.method).1
 have X0 : Stand p l e (rO 5 1 160 118) s m #[.ref b, .long vv] below meth c s₁ [] 0 0 := Stand.of_body Bd
 have e0 : s₁.heap = h0 := by rw [← hh, Bd.state]; rfl
 have N0 := Fr.nil n0
 obtain ⟨B_, hB_⟩ : ∃ z, z = s₁.setTop (entryFrame m #[.ref b, .long vv] 3) := ⟨_, rfl⟩
 have k0 : o_K p e below (s₁.setTop (mkF m 0 #[.val (.ref b), .val (.long vv), .second] [])) B_ := by rw [hB_]; exact fun t k => castTop (by clear k; first | (simp [entryFrame, mkF, argsToLocals, Value.category, maxLocals]; done) | rfl) k
 have K0 : Keep h0 h0 [b, t] := Keep.refl _ _
 have k1 : o_J p e below s₁ m 2 #[vR b, vL vv, .second] [.long vv, .ref b] B_ := fun t_ hh => k0 t_ (by
  refine XS.aloadN X0.here hx rfl (hb hby o_h449) rfl rfl ?_
  refine XS.lloadN X0.here hx rfl (hb hby o_h450) rfl ?_
  exact hh)
 obtain ⟨_, _, ⟨T21, L22, k_23, n_24⟩, -, X25, ⟨Lc26, hQ27, l_28, y_29, z_30⟩, st31⟩ := superBack X0 hx hZ (y := ⟨oA, "append", "(J)Ljava/lang/AbstractStringBuilder;"⟩) hown (wT hw 188 rfl) (o_sameSelf (wT hw 189 rfl) (wT hw 92 rfl) (by decide) rfl) (wT hw 189 rfl) (wT hw 73 rfl) (by decide) (backOf (W := 0) (rmAj l Z a0 hw [] b t kt cap ds us vv h0 n0 Z0 f0_ f1_ f2_ f3_ f4_ f5_ hdc hn hcap hv f10_ f11_ f12_ f13_ ci sC hc hdg) hZ (wT hw 191 rfl) (wT hw 51 rfl) (by decide) (by decide)) e0 (Ins.self f0_) (g := (mkF m 2 #[vR b, vL vv, .second] [.long vv, .ref b])) rfl (by rw [hml]; rfl) (wT hw 191 rfl) (argsL := [.long vv]) (rest := []) (lenOf o_h452 rfl) rfl (o_w0 rfl) (hb hby o_h451) (fun _ _ => ⟨rfl, e0, o_l rfl, o_l rfl⟩)
 dsimp only [Pt.U, Pt.locs, Pt.cells, Pt.slots] at X25 l_28 y_29 z_30 st31 hQ27
 subst l_28 y_29 z_30
 obtain ⟨t233, k234, es35, gs36, rfl, N32, K48, F37, F38, F39, F40, F41, F42, F43, F44, F45, F46, F47, -⟩ := hQ27
 have N49 := Fr.app N0 N32
 have F50 := f0_.keep K48
 have F51 := f5_.keep K48
 have Z52 : n0 ≤ T21.heap.size := Nat.le_trans Z0 K48.1
 have O53 := f13_.keep K48 (allS f10_ (allS f11_ all0))
 have P54 : Keep h0 T21.heap [b, t] := K0.trans K48 (allS (P := fun x => x ∈ [b, t] ∨ h0.size ≤ x) (Or.inl (List.mem_of_getElem? (i := 0) rfl)) (allS (P := fun x => x ∈ [b, t] ∨ h0.size ≤ x) (Or.inl (List.mem_of_getElem? (i := 1) rfl)) all0))
 have e55 : T21.heap = T21.heap := rfl
 have k2 : o_J p e below T21 m 5 #[vR b, vL vv, .second] [.ref b] B_ := fun t_ hh => k1 t_ (st31.trans hh)
 clear k1 st31
 have k3 : o_J p e below T21 m 7 #[vR b, vL vv, .second] [.ref b] B_ := fun t_ hh => k2 t_ (by
  refine XS.pop X25.here hx rfl (hb hby o_h453) rfl rfl ?_
  refine XS.aloadN X25.here hx rfl (hb hby o_h454) rfl rfl ?_
  exact hh)
 clear k2
 obtain ⟨fs, hr, hrun, hended, hW, hsame⟩ := X25.leave (v := some (.ref b)) (fun h => by rw [Bd.returns] at h; cases h)
 refine ⟨_, _, (o_from hB_ (k3 _ (retOut X25 hx (t := .object oB) Bd.returns rfl (Or.inr (Or.inr (Or.inr (Or.inr ⟨rfl, rfl, rfl⟩)))) (hb hby o_h455) hr))), hrun, hended, _, _, rfl, ?_, ⟨_, rfl⟩, hW, hsame.mono (o_l rfl) (o_l rfl)⟩
 show Q_rmSj Z b t kt cap ds us vv h0 n0 _ T21.heap _
 rw [e55]
 exact ⟨t233, k234, es35, gs36, rfl, N49, P54, F37, F38, F39, F40, F41, F42, F43, F44, F45, F46, F47, trivial⟩
def Q_rmEx (Z : State) (vv : Int64) (h0 : Heap) (n0 : Nat) (v : Option Value) (h : Heap) (L : List Loc) : Prop := ∃ r : Addr, ∃ tr : Addr, ∃ kr : ClassId, ∃ ms : List Int32, v = some (.ref r) ∧ Fr n0 L ∧ Keep h0 h [] ∧ Exa Z h r oS ∧ Fld Z h r oS "value" "[B" (.ref tr) ∧ Fld Z h r oS "coder" "B" (.int (0 : Int32)) ∧ Arv Z h tr kr .byte (Int32.ofNat (List.length ms)) (o_by ms) (.int (0 : Int32)) ∧ o_exp vv ms ∧ True
theorem o_h456 : plainName oV = true := by first | (simp [plainName, overriddenIn]; done) | decide +kernel
theorem o_h457 : decode prog_14_method_6_code 0 = .ok (.lload_n 0, 1) := by decide +kernel
theorem o_h458 : decode prog_14_method_6_code 1 = .ok (.lconst 0, 1) := by decide +kernel
theorem o_h459 : decode prog_14_method_6_code 2 = .ok (.lcmp, 1) := by decide +kernel
theorem o_h460 : decode prog_14_method_6_code 3 = .ok (.ifCond .ge 8, 3) := by decide +kernel
theorem o_h461 : decode prog_14_method_6_code 6 = .ok (.ldc 107, 2) := by decide +kernel
theorem o_h462 : decode prog_14_method_6_code 8 = .ok (.goto 22, 3) := by decide +kernel
theorem o_h463 : decode prog_14_method_6_code 30 = .ok (.areturn, 1) := by decide +kernel
theorem o_h464 : decode prog_14_method_6_code 11 = .ok (.new 43, 3) := by decide +kernel
theorem o_h465 : decode prog_14_method_6_code 14 = .ok (.dup, 1) := by decide +kernel
theorem o_h466 : decode prog_14_method_6_code 15 = .ok (.invokespecial 45, 3) := by decide +kernel
theorem o_h467 : decode prog_14_method_6_code 18 = .ok (.ldc 109, 2) := by decide +kernel
theorem o_h468 : decode prog_14_method_6_code 20 = .ok (.invokevirtual 48, 3) := by decide +kernel
theorem o_h469 : decode prog_14_method_6_code 23 = .ok (.lload_n 0, 1) := by decide +kernel
theorem o_h470 : decode prog_14_method_6_code 24 = .ok (.invokevirtual 67, 3) := by decide +kernel
theorem o_h471 : parseMethodDescriptor "(J)Ljava/lang/StringBuilder;" = some ⟨[.long], some (.object oB)⟩ := by decide +kernel
theorem o_h472 : decode prog_14_method_6_code 27 = .ok (.invokevirtual 57, 3) := by decide +kernel
theorem rmEx (l : Launch) (Z : State) (a0 : Array Value) (hw : ∀ d ∈ tables_1, d.before a0 Z = true) (ws : List Jvm.Cond) (vv : Int64) (h0 : Heap) (n0 : Nat) (Z0 : n0 ≤ h0.size) (f0_ : Old Z n0 h0) (ci : Int32) (sC : Sta Z Z.heap oS "COMPACT_STRINGS" "Z" (.int ci)) (hc : ¬ ci = 0) (hdg : o_Dig Z) :
    MetFree l (⟨oV, "expectation", "(J)Ljava/lang/String;"⟩ : MethodName) (head1 (Jvm.Cond.code (⟨oV, "expectation", "(J)Ljava/lang/String;"⟩ : MethodName) prog_14_method_6_code 2 (some (.object oS)) :: ws) (rO 6 8 612 132)) (fun ar_ U => ar_ = #[.long vv] ∧ Z.Warmed39 U.vm ∧ U.heap = h0 ∧ CHv Z o_EL U.vm h0) (fun _ _ _ _ _ => True) (fun _ U o U' => ∃ v L, o = .returned v ∧ Q_rmEx Z vv h0 n0 v U'.heap L ∧ CHr Z o_EL U.vm U.heap U'.vm U'.heap ∧ ReturnedEndW U o U' L (rO 6 8 612 132).cells (rO 6 8 612 132).slots) := by
 refine MetFree.of_bodySF (plainFor_of_name o_h456) hisR ?_
 intro p e s m args below meth c s₁ Bd hml0 hP hK
 obtain ⟨rfl, hZ, hh, hCH⟩ := hP
 have hx := Bd.exec
 have hby := Bd.bytes
 have hml : c.maxLocals = 2 := hml0
 have hown : s.vm.findClass oV = some m.cls := findClass_of_methodNamed Bd.named
 have hnm := (name_of_methodNamed Bd.named Bd.method).1
 have X0 : Stand p l e (rO 6 8 612 132) (s.setVm s.vm) m #[.long vv] below meth c s₁ [] 0 0 := Stand.of_body Bd
 have hS0 : s.Since s.vm 0 := (State.WarmedH.refl s).since 0
 have hk0 : 0 ≤ h0.size := Nat.zero_le _
 have hZ : Z.Warmed39 (s.setVm s.vm).vm := hZ
 have hown : (s.setVm s.vm).vm.findClass oV = some m.cls := hown
 have Cr0 : CHr Z o_EL s.vm h0 s.vm h0 := CHr.refl hCH
 have e0 : s₁.heap = h0 := by rw [← hh, Bd.state]; rfl
 have N0 := Fr.nil n0
 obtain ⟨B_, hB_⟩ : ∃ z, z = s₁.setTop (entryFrame m #[.long vv] 2) := ⟨_, rfl⟩
 have k0 : o_K p e below (s₁.setTop (mkF m 0 #[.val (.long vv), .second] [])) B_ := by rw [hB_]; exact fun t k => castTop (by clear k; first | (simp [entryFrame, mkF, argsToLocals, Value.category, maxLocals]; done) | rfl) k
 have K0 : Keep h0 h0 [] := Keep.refl _ _
 have k1 : o_J p e below s₁ m 3 #[vL vv, .second] [(.int (lcmpW vv (0 : Int64)))] B_ := fun t_ hh => k0 t_ (by
  refine XS.lloadN X0.here hx rfl (hb hby o_h457) rfl ?_
  refine XS.lconst X0.here hx rfl (hb hby o_h458) ?_
  refine XS.lcmp X0.here hx rfl (hb hby o_h459) rfl ?_
  exact hh)
 by_cases c3 : (lcmpW vv (0 : Int64)) < 0
 ·
  have k2 : o_J p e below s₁ m 6 #[vL vv, .second] [] B_ := fun t_ hh => k1 t_ (by
   refine XS.ifNo X0.here hx rfl (hb hby o_h460) rfl (o_ifF_ge c3) ?_
   exact hh)
  clear k1
  obtain ⟨a21, T22, h23, k_24, b25, kb26, X27, e28, E29, hS30, hk31, hZ32, hown33, E34, F35, F36, F37, l38, l39, C40, Lt41, ne42, st43⟩ := ldcCH X0 hx hZ hown (wT hw 397 rfl) (o_strAtoms hw) e0 hS0 hk0 (o_EW hw) (List.mem_of_getElem? (i := 5) rfl) Cr0.1 (vs := [(.int 116), (.int 104), (.int 101), (.int 32), (.int 99), (.int 97), (.int 108), (.int 108), (.int 32), (.int 110), (.int 97), (.int 109), (.int 101), (.int 100), (.int 32), (.int 110), (.int 111), (.int 32), (.int 118), (.int 101), (.int 114), (.int 115), (.int 105), (.int 111), (.int 110)]) (z := (25 : Int32)) ⟨by decide, rfl⟩ (by decide) rfl (g := (mkF m 6 #[vL vv, .second] [])) rfl (hb hby o_h461) (n := 100) (by decide) (by decide) (by decide) (by decide)
  have Z44 : n0 ≤ h23.size := Nat.le_trans Z0 E29.1
  have O45 := f0_.ext E29
  have P46 : Keep h0 h23 [] := K0.ext E29
  have Cr47 := Cr0.trans C40
  have k3 : o_J p e below T22 m 8 #[vL vv, .second] [.ref a21] B_ := fun t_ hh => k2 t_ (st43 t_ hh)
  clear k2 st43
  have F48 := o_lit4_arv F37
  have k4 : o_J p e below T22 m 30 #[vL vv, .second] [.ref a21] B_ := fun t_ hh => k3 t_ (by
   refine XS.goto X27.here hx rfl (pc0 := 8) (pc' := 30) rfl (hb hby o_h462) (by decide) (by decide) ?_
   exact hh)
  clear k3
  obtain ⟨fs, hr, hrun, hended, hEnd⟩ := X27.leaveW hS30 (by rw [e28]; exact hk31) (v := some (.ref a21)) (fun h => by rw [Bd.returns] at h; cases h)
  refine ⟨_, _, (o_from hB_ (k4 _ (retOut X27 hx (t := .object oS) Bd.returns rfl (Or.inr (Or.inr (Or.inr (Or.inr ⟨rfl, rfl, rfl⟩)))) (hb hby o_h463) hr))), hrun, hended, _, _, rfl, ?_, ?_, hEnd.1, hEnd.2.1, hEnd.2.2.1, hEnd.2.2.2.mono (o_l rfl) (o_l rfl)⟩
  rotate_left
  · show CHr Z o_EL s.vm s.heap T22.vm T22.heap
    rw [hh, e28]
    exact Cr47.trans (CHv.at X27 hZ32 (o_EW hw) Cr47.1)
  show Q_rmEx Z vv h0 n0 _ T22.heap _
  rw [e28]
  exact ⟨a21, b25, kb26, o_lit4, rfl, N0, P46, E34, F36, F35, F48, ⟨fun _ => rfl, fun q => absurd (o_lcmp0.mp c3) (Int.not_lt.mpr q)⟩, trivial⟩
 ·
  have k5 : o_J p e below s₁ m 11 #[vL vv, .second] [] B_ := fun t_ hh => k1 t_ (by
   refine XS.ifYes X0.here hx rfl (pc0 := 3) (pc' := 11) rfl (hb hby o_h460) rfl (o_ifT_ge c3) (by decide) (by decide) ?_
   exact hh)
  clear k1
  obtain ⟨T49, h50, X51, e52, E53, A54, D55, U57, st56⟩ := newO X0 hx hZ hown (wT hw 41 rfl) (wT hw 42 rfl) (wT hw 43 rfl) e0 (g := (mkF m 11 #[vL vv, .second] [])) rfl (hb hby o_h464) (by decide) (by decide)
  obtain ⟨a58, g59⟩ : ∃ z, z = h0.size := ⟨_, rfl⟩
  rw [← g59] at A54 D55 U57 st56
  have H060 : h0.size ≤ a58 := Nat.le_trans K0.1 (Nat.le_of_eq g59.symm)
  have G61 : n0 ≤ a58 := Nat.le_trans Z0 (Nat.le_of_eq g59.symm)
  have hk62 := Nat.le_trans hk0 E53.1
  have Sf63 := Safe.ext E53 Cr0.1 (Safe.new (x := a58) (Nat.le_of_eq g59.symm))
  have Z64 : n0 ≤ h50.size := Nat.le_trans Z0 E53.1
  have O65 := f0_.ext E53
  have P66 : Keep h0 h50 [] := K0.ext E53
  have Cr67 := Cr0.trans (CHr.ext E53 Cr0.1)
  have F68 : Fld Z h50 a58 oA "value" "[B" .null := D55 (Or.inl (wT hw 56 rfl)) (ty := .array .byte) (by decide)
  have F69 : Fld Z h50 a58 oA "coder" "B" (.int 0) := D55 (Or.inl (wT hw 58 rfl)) (ty := .byte) (by decide)
  have F70 : Fld Z h50 a58 oA "count" "I" (.int 0) := D55 (Or.inl (wT hw 88 rfl)) (ty := .int) (by decide)
  have k6 : o_J p e below T49 m 14 #[vL vv, .second] [.ref a58] B_ := fun t_ hh => k5 t_ (st56 t_ hh)
  clear k5 st56
  have k7 : o_J p e below T49 m 15 #[vL vv, .second] [.ref a58, .ref a58] B_ := fun t_ hh => k6 t_ (by
   refine XS.dup X51.here hx rfl (hb hby o_h465) rfl rfl ?_
   exact hh)
  clear k6
  obtain ⟨_, _, ⟨T71, L72, k_73, n_74⟩, -, X75, ⟨Lc76, hQ77, l_78, y_79, z_80⟩, st81⟩ := X51.specialBack hx (y := ⟨oB, "<init>", "()V"⟩) rfl hown (mvT hZ (wT hw 44 rfl)) (mvT hZ (wT hw 45 rfl)) (mvT hZ (wT hw 46 rfl)) (by decide) (backOf (W := 1) (rmSi l Z a0 hw [] a58 h50 n0 Z64 A54 F68 F69 F70 G61 O65 ci sC hc) hZ (wT hw 46 rfl) (wT hw 43 rfl) (by decide) (by decide)) (g := (mkF m 15 #[vL vv, .second] [.ref a58, .ref a58])) rfl (by rw [hml]; rfl) (Steps.refl _) (a := a58) (argsL := []) (rest := [.ref a58]) (lenOf o_h408 rfl) rfl (o_w0 rfl) (hb hby o_h466) (fun _ _ => ⟨rfl, e52, o_l rfl, o_l rfl⟩)
  dsimp only [Pt.U, Pt.locs, Pt.cells, Pt.slots] at X75 l_78 y_79 z_80 st81 hQ77
  subst l_78 y_79 z_80
  obtain ⟨t283, k284, rfl, N82, K93, F85, F86, F87, F88, F89, F90, F91, F92, -⟩ := hQ77
  have N94 := Fr.app N0 N82
  have H095 : h0.size ≤ t283 := Nat.le_trans P66.1 F92
  have Sf96 := o_safeNew Cr67.1 F92
  have F97 := A54.keep K93
  have Z98 : n0 ≤ T71.heap.size := Nat.le_trans Z64 K93.1
  have hk99 := Nat.le_trans hk62 K93.1
  have Sf100 := Safe.keep K93 (allS Sf63 all0) Cr67.1 Sf63
  have Sf101 := Safe.keep K93 (allS Sf63 all0) Cr67.1 Sf96
  have Cr102 := Cr67.trans (CHr.keep K93 (allS Sf63 all0) Cr67.1)
  have O103 := O65.keep K93 (allS G61 all0)
  have P104 : Keep h0 T71.heap [] := P66.trans K93 (allS (P := fun x => x ∈ [] ∨ h0.size ≤ x) (Or.inr H060) all0)
  have e105 : T71.heap = T71.heap := rfl
  have k8 : o_J p e below T71 m 18 #[vL vv, .second] [.ref a58] B_ := fun t_ hh => k7 t_ (st81.trans hh)
  clear k7 st81 X51 e52
  obtain ⟨a106, T107, h108, k_109, b110, kb111, X112, e113, E114, hS115, hk116, hZ117, hown118, E119, F120, F121, F122, l123, l124, C125, Lt126, ne127, st128⟩ := ldcCH X75 hx hZ hown (wT hw 182 rfl) (o_strAtoms hw) e105 hS0 hk99 (o_EW hw) (List.mem_of_getElem? (i := 6) rfl) Cr102.1 (vs := [(.int 116), (.int 104), (.int 101), (.int 32), (.int 99), (.int 97), (.int 108), (.int 108), (.int 32), (.int 101), (.int 120), (.int 112), (.int 101), (.int 99), (.int 116), (.int 101), (.int 100), (.int 32), (.int 118), (.int 101), (.int 114), (.int 115), (.int 105), (.int 111), (.int 110), (.int 32)]) (z := (26 : Int32)) ⟨by decide, rfl⟩ (by decide) rfl (g := (mkF m 18 #[vL vv, .second] [.ref a58])) rfl (hb hby o_h467) (n := 104) (by decide) (by decide) (by decide) (by decide)
  have Sf129 := C125.safe F85.lt Sf100
  have ne130 := (ne127 _ Sf129).1
  have ne131 := (ne127 _ Sf129).2
  have Sf132 := C125.safe F90.lt Sf101
  have ne133 := (ne127 _ Sf132).1
  have ne134 := (ne127 _ Sf132).2
  have F135 := Exa.ext (h' := h108) E114 F85
  have F136 := Fld.ext (h' := h108) E114 F86
  have F137 := Fld.ext (h' := h108) E114 F87
  have F138 := Fld.ext (h' := h108) E114 F88
  have F139 := F89.ext E114
  have F140 := Exa.ext (h' := h108) E114 F90
  have Z141 : n0 ≤ h108.size := Nat.le_trans Z98 E114.1
  have O142 := O103.ext E114
  have P143 : Keep h0 h108 [] := P104.ext E114
  have Cr144 := Cr102.trans C125
  have k9 : o_J p e below T107 m 20 #[vL vv, .second] [.ref a106, .ref a58] B_ := fun t_ hh => k8 t_ (st128 t_ hh)
  clear k8 st128 X75 e105
  have F145 := o_lit5_arv F122
  have ne157 : a58 ≠ t283 := Nat.ne_of_lt (Nat.lt_of_lt_of_le A54.lt F92)
  obtain ⟨cq158, kq159, qa160, qb161, qc162⟩ := isOf hZ117 e113 F135
  obtain ⟨_, _, ⟨T146, L147, k_148, n_149⟩, -, X150, ⟨Lc151, hQ152, l_153, y_154, z_155⟩, st156⟩ := X112.virtualBack hx (y := ⟨oB, "append", "(Ljava/lang/String;)Ljava/lang/StringBuilder;"⟩) (z := ⟨oB, "append", "(Ljava/lang/String;)Ljava/lang/StringBuilder;"⟩) hown118 (mvT hZ117 (wT hw 177 rfl)) (mvT hZ117 (wT hw 67 rfl)) (notFace_of_selects (args := #[]) (mvT hZ117 (wT hw 69 rfl))) (mvT hZ117 (wT hw 69 rfl)) (mvT hZ117 (wT hw 68 rfl)) (by decide) (backOf (W := 0) (rmSa l Z a0 hw [] a58 t283 k284 16 (List.replicate 16 (.int 0)) ([] : List Int32) a106 b110 kb111 o_lit5 h108 n0 Z141 F135 F136 F137 F138 F139 F140 E119 F121 F120 F145 ⟨List.length_replicate, rfl⟩ (Nat.zero_le _) (Nat.le_trans (o_cap_le (B := 34) (Nat.le_trans (Nat.add_le_add (Nat.le_refl 0) (Nat.le_of_eq o_lit5_len)) (o_l rfl)) (o_l rfl)) (o_l rfl)) G61 F91 ne157 (Ne.symm ne134) (Ne.symm ne133) (Ne.symm ne131) (Ne.symm ne130) O142 ci sC hc) hZ117 (wT hw 70 rfl) (wT hw 43 rfl) (by decide) (by decide)) qa160 qc162 (g := (mkF m 20 #[vL vv, .second] [.ref a106, .ref a58])) rfl (by rw [hml]; rfl) (Steps.refl _) (argsL := [.ref a106]) (rest := []) (lenOf o_h411 rfl) rfl (o_w0 rfl) (hb hby o_h468) (fun _ _ => ⟨rfl, e113, o_l rfl, o_l rfl⟩)
  dsimp only [Pt.U, Pt.locs, Pt.cells, Pt.slots] at X150 l_153 y_154 z_155 st156 hQ152
  subst l_153 y_154 z_155
  obtain ⟨t2164, k2165, es166, rfl, N163, K177, F167, F168, F169, F170, F171, F172, F173, F174, F175, F176, -⟩ := hQ152
  have N178 := Fr.app N94 N163
  have Sf179 := o_safe_or Sf132 F174
  have ne180 : b110 ≠ t2164 := o_ne_or (Ne.symm ne134) F145.lt F174
  have ne181 : a106 ≠ t2164 := o_ne_or (Ne.symm ne133) E119.lt F174
  have H0182 : h0.size ≤ t2164 := o_ge_or H095 P143.1 F174
  have F183 := F135.keep K177
  have F184 := F140.keep K177
  have F185 := F145.keep K177 (ninS (Ne.symm ne131) (ninS (Ne.symm ne134) nin0))
  have F186 := E119.keep K177
  have F187 := F121.keep K177 (ninS (Ne.symm ne130) (ninS (Ne.symm ne133) nin0))
  have F188 := F120.keep K177 (ninS (Ne.symm ne130) (ninS (Ne.symm ne133) nin0))
  have Z189 : n0 ≤ T146.heap.size := Nat.le_trans Z141 K177.1
  have hk190 := Nat.le_trans hk116 K177.1
  have Sf191 := Safe.keep K177 (allS Sf129 (allS Sf132 all0)) Cr144.1 Sf129
  have Sf192 := Safe.keep K177 (allS Sf129 (allS Sf132 all0)) Cr144.1 Sf132
  have Sf193 := Safe.keep K177 (allS Sf129 (allS Sf132 all0)) Cr144.1 Sf179
  have Cr194 := Cr144.trans (CHr.keep K177 (allS Sf129 (allS Sf132 all0)) Cr144.1)
  have O195 := O142.keep K177 (allS G61 (allS F91 all0))
  have P196 : Keep h0 T146.heap [] := P143.trans K177 (allS (P := fun x => x ∈ [] ∨ h0.size ≤ x) (Or.inr H060) (allS (P := fun x => x ∈ [] ∨ h0.size ≤ x) (Or.inr H095) all0))
  have e197 : T146.heap = T146.heap := rfl
  have k10 : o_J p e below T146 m 23 #[vL vv, .second] [.ref a58] B_ := fun t_ hh => k9 t_ (st156.trans hh)
  clear k9 st156 X112 e113
  obtain ⟨us198, eu199⟩ : ∃ z, z = ([] : List Int32) ++ o_lit5 := ⟨_, rfl⟩
  rw [← eu199] at F170 F173
  have hl200 : List.length us198 ≤ 26 := by rw [eu199, List.length_append]; exact Nat.add_le_add (Nat.le_refl 0) (Nat.le_of_eq o_lit5_len)
  rw [show o_cap 16 (List.length ([] : List Int32) + List.length o_lit5) = 34 from by decide] at F171 F173
  have hn201 : List.length us198 ≤ 34 := Nat.le_trans hl200 (o_l rfl)
  have hv : 0 ≤ vv.toInt := Int.not_lt.mp fun q => c3 (o_lcmp0.mpr q)
  have hd19 : (Jvm.Free.SBG.digitsL vv.toInt.toNat) ≤ 19 := o_d19 hv
  have k11 : o_J p e below T146 m 24 #[vL vv, .second] [.long vv, .ref a58] B_ := fun t_ hh => k10 t_ (by
   refine XS.lloadN X150.here hx rfl (hb hby o_h469) rfl ?_
   exact hh)
  clear k10
  obtain ⟨cq213, kq214, qa215, qb216, qc217⟩ := isOf hZ117 e197 F167
  obtain ⟨_, _, ⟨T202, L203, k_204, n_205⟩, -, X206, ⟨Lc207, hQ208, l_209, y_210, z_211⟩, st212⟩ := X150.virtualBack hx (y := ⟨oB, "append", "(J)Ljava/lang/StringBuilder;"⟩) (z := ⟨oB, "append", "(J)Ljava/lang/StringBuilder;"⟩) hown118 (mvT hZ117 (wT hw 183 rfl)) (mvT hZ117 (wT hw 184 rfl)) (notFace_of_selects (args := #[]) (mvT hZ117 (wT hw 186 rfl))) (mvT hZ117 (wT hw 186 rfl)) (mvT hZ117 (wT hw 185 rfl)) (by decide) (backOf (W := 0) (rmSj l Z a0 hw [] a58 t2164 k2165 34 es166 us198 vv T146.heap n0 Z189 F167 F168 F169 F170 F171 F172 F173 hn201 (Nat.le_trans (o_cap_le (B := 70) (Nat.le_trans (Nat.add_le_add hl200 hd19) (o_l rfl)) (o_l rfl)) (o_l rfl)) hv G61 F175 F176 O195 ci sC hc hdg) hZ117 (wT hw 187 rfl) (wT hw 43 rfl) (by decide) (by decide)) qa215 qc217 (g := (mkF m 24 #[vL vv, .second] [.long vv, .ref a58])) rfl (by rw [hml]; rfl) (Steps.refl _) (argsL := [.long vv]) (rest := []) (lenOf o_h471 rfl) rfl (o_w0 rfl) (hb hby o_h470) (fun _ _ => ⟨rfl, e197, o_l rfl, o_l rfl⟩)
  dsimp only [Pt.U, Pt.locs, Pt.cells, Pt.slots] at X206 l_209 y_210 z_211 st212 hQ208
  subst l_209 y_210 z_211
  obtain ⟨t2219, k2220, es221, gs222, rfl, N218, K234, F223, F224, F225, F226, F227, F228, F229, F230, F231, F232, F233, -⟩ := hQ208
  have N235 := Fr.app N178 N218
  have Sf236 := o_safe_or Sf193 F230
  have H0237 : h0.size ≤ t2219 := o_ge_or H0182 P196.1 F230
  have F238 := F167.keep K234
  have F239 := F172.keep K234
  have Z240 : n0 ≤ T202.heap.size := Nat.le_trans Z189 K234.1
  have hk241 := Nat.le_trans hk190 K234.1
  have Sf242 := Safe.keep K234 (allS Sf191 (allS Sf193 all0)) Cr194.1 Sf191
  have Sf243 := Safe.keep K234 (allS Sf191 (allS Sf193 all0)) Cr194.1 Sf193
  have Sf244 := Safe.keep K234 (allS Sf191 (allS Sf193 all0)) Cr194.1 Sf236
  have Cr245 := Cr194.trans (CHr.keep K234 (allS Sf191 (allS Sf193 all0)) Cr194.1)
  have O246 := O195.keep K234 (allS G61 (allS F175 all0))
  have P247 : Keep h0 T202.heap [] := P196.trans K234 (allS (P := fun x => x ∈ [] ∨ h0.size ≤ x) (Or.inr H060) (allS (P := fun x => x ∈ [] ∨ h0.size ≤ x) (Or.inr H0182) all0))
  have e248 : T202.heap = T202.heap := rfl
  have k12 : o_J p e below T202 m 27 #[vL vv, .second] [.ref a58] B_ := fun t_ hh => k11 t_ (st212.trans hh)
  clear k11 st212 X150 e197
  obtain ⟨us249, eu250⟩ : ∃ z, z = us198 ++ gs222 := ⟨_, rfl⟩
  rw [← eu250] at F226 F229
  have hl251 : List.length us249 ≤ 45 := by rw [eu250, List.length_append, F233.1]; exact Nat.add_le_add hl200 hd19
  obtain ⟨cp253, ec254⟩ : ∃ z, z = o_cap 34 (List.length us198 + (Jvm.Free.SBG.digitsL vv.toInt.toNat)) := ⟨_, rfl⟩
  rw [← ec254] at F227 F229
  have hb255 : cp253 ≤ 70 := by rw [ec254]; exact o_cap_le (Nat.le_trans (Nat.add_le_add hl200 hd19) (o_l rfl)) (o_l rfl)
  have hn252 : List.length us249 ≤ cp253 := by rw [eu250, List.length_append, F233.1, ec254]; exact o_cap_ge
  obtain ⟨cq267, kq268, qa269, qb270, qc271⟩ := isOf hZ117 e248 F223
  obtain ⟨_, _, ⟨T256, L257, k_258, n_259⟩, -, X260, ⟨Lc261, hQ262, l_263, y_264, z_265⟩, st266⟩ := X206.virtualBack hx (y := ⟨oB, "toString", "()Ljava/lang/String;"⟩) (z := ⟨oB, "toString", "()Ljava/lang/String;"⟩) hown118 (mvT hZ117 (wT hw 204 rfl)) (mvT hZ117 (wT hw 139 rfl)) (notFace_of_selects (args := #[]) (mvT hZ117 (wT hw 141 rfl))) (mvT hZ117 (wT hw 141 rfl)) (mvT hZ117 (wT hw 140 rfl)) (by decide) (backOf (W := 0) (rmTs l Z a0 hw [] a58 t2219 k2220 cp253 es221 us249 T202.heap n0 Z240 F223 F224 F225 F226 F227 F228 F229 hn252 (Nat.le_trans hb255 (o_l rfl)) O246 ci sC hc) hZ117 (wT hw 142 rfl) (wT hw 43 rfl) (by decide) (by decide)) qa269 qc271 (g := (mkF m 27 #[vL vv, .second] [.ref a58])) rfl (by rw [hml]; rfl) (Steps.refl _) (argsL := []) (rest := []) (lenOf o_h419 rfl) rfl (o_w0 rfl) (hb hby o_h472) (fun _ _ => ⟨rfl, e248, o_l rfl, o_l rfl⟩)
  dsimp only [Pt.U, Pt.locs, Pt.cells, Pt.slots] at X260 l_263 y_264 z_265 st266 hQ262
  subst l_263 y_264 z_265
  obtain ⟨r273, t2274, k2275, rfl, N272, K284, F276, F277, F278, F279, F280, F281, F282, F283, -⟩ := hQ262
  have N285 := Fr.app N235 N272
  have H0286 : h0.size ≤ r273 := Nat.le_trans P247.1 F282
  have H0287 : h0.size ≤ t2274 := Nat.le_trans P247.1 F283
  have Sf288 := o_safeNew Cr245.1 F282
  have Sf289 := o_safeNew Cr245.1 F283
  have F290 := F223.keep K284
  have F291 := F224.keep K284 nin0
  have F292 := F225.keep K284 nin0
  have F293 := F226.keep K284 nin0
  have F294 := F227.keep K284 nin0
  have F295 := F228.keep K284
  have Z296 : n0 ≤ T256.heap.size := Nat.le_trans Z240 K284.1
  have hk297 := Nat.le_trans hk241 K284.1
  have Sf298 := Safe.keep K284 all0 Cr245.1 Sf242
  have Sf299 := Safe.keep K284 all0 Cr245.1 Sf244
  have Sf300 := Safe.keep K284 all0 Cr245.1 Sf288
  have Sf301 := Safe.keep K284 all0 Cr245.1 Sf289
  have Cr302 := Cr245.trans (CHr.keep K284 all0 Cr245.1)
  have O303 := O246.keep K284 all0
  have P304 : Keep h0 T256.heap [] := P247.trans K284 (fun _ q => nomatch q)
  have e305 : T256.heap = T256.heap := rfl
  have k13 : o_J p e below T256 m 30 #[vL vv, .second] [.ref r273] B_ := fun t_ hh => k12 t_ (st266.trans hh)
  clear k12 st266 X206 e248
  obtain ⟨fs, hr, hrun, hended, hEnd⟩ := X260.leaveW hS115 (by rw [e305]; exact hk297) (v := some (.ref r273)) (fun h => by rw [Bd.returns] at h; cases h)
  refine ⟨_, _, (o_from hB_ (k13 _ (retOut X260 hx (t := .object oS) Bd.returns rfl (Or.inr (Or.inr (Or.inr (Or.inr ⟨rfl, rfl, rfl⟩)))) (hb hby o_h463) hr))), hrun, hended, _, _, rfl, ?_, ?_, hEnd.1, hEnd.2.1, hEnd.2.2.1, hEnd.2.2.2.mono (o_l rfl) (o_l rfl)⟩
  rotate_left
  · show CHr Z o_EL s.vm s.heap T256.vm T256.heap
    rw [hh, e305]
    exact Cr302.trans (CHv.at X260 hZ117 (o_EW hw) Cr302.1)
  show Q_rmEx Z vv h0 n0 _ T256.heap _
  rw [e305]
  exact ⟨r273, t2274, k2275, us249, rfl, N285, P304, F276, F277, F278, F279, ⟨fun q => absurd hv (Int.not_le.mpr q), fun _ => ⟨gs222, by rw [eu250, eu199, List.nil_append], F233⟩⟩, trivial⟩
theorem o_sig {t : String} {g : MethodDescriptor} {ps : List FieldType} (h : parseMethodDescriptor t = some g) (q : (parseMethodDescriptor t).map (·.parameters) = some ps) : g.parameters = ps := by
  rw [h] at q; exact Option.some.inj q
theorem o_TC {Z s : State} {a0 args : Array Value} {pl : Platform} (hZ : Z.Warmed39 s.vm) (hT : ThS Z s.heap) (hw : ∀ d ∈ tables_1, d.before a0 Z = true) (hp1 : pl.frameOwnsMonitors = true) (hp2 : pl.finalization = false) (hp3 : pl.magicAccessors = ({} : Platform).magicAccessors) :
    ∃ T : ThrowableC, T.Links pl s ∧ s.vm.findClass oT = some T.cT ∧ s.methodNamed? Jvm.Bundle.tFill = some T.fill ∧ s.methodNamed? Jvm.Bundle.tFill0 = some T.fill0 ∧ s.fieldFound? oT "stackTrace" "[Ljava/lang/StackTraceElement;" = some (T.cT, T.kT, T.i17, T.fStack) ∧ s.fieldFound? oT "UNASSIGNED_STACK" "[Ljava/lang/StackTraceElement;" = some (T.cT, T.kT, T.i13, T.fUnassigned) ∧ T.fStack.type = .array (.object "java/lang/StackTraceElement") := by
  have a : ∀ {d : Cond}, d.before args s = true → d.holds args s none s [] = true := fun h => h
  obtain ⟨⟨c, j0⟩, m0, n0, v0, x1, x2, x3, x4⟩ := Cond.native_spec (x := Jvm.Bundle.tFill0) (a (mvT hZ (wT hw 250 rfl)))
  have hc : s.vm.findClass oT = some c := findClass_of_methodNamed n0
  obtain ⟨k, hk, kn⟩ := Vm.findClass_spec hc
  obtain ⟨_, k1, _, _, hk1, _, _, -, _, ki⟩ := Cond.superclass_spec hc (a (mvT hZ (wT hw 247 rfl)))
  cases hk.symm.trans hk1
  obtain ⟨jF, mF, nF, vF, y1, y2, y3, -, -⟩ := Cond.ownMethod (x := Jvm.Bundle.tFill) hc hk (a (mvT hZ (wT hw 242 rfl)))
  obtain ⟨mF', cF, vF', y4, y5, y6, y7, y8, -, y9⟩ := Cond.codeSync_spec nF (a (mvT hZ (wT hw 248 rfl)))
  cases vF.symm.trans vF'
  obtain ⟨j0', m0', n0', v0', x5, x6, x7, x8, x9⟩ := Cond.ownMethod (x := Jvm.Bundle.tFill0) hc hk (a (mvT hZ (wT hw 249 rfl)))
  cases n0.symm.trans n0'
  cases v0.symm.trans v0'
  obtain ⟨mO, eO, nO, vO, z1, z2⟩ := Cond.instanceMethod_spec (x := Jvm.Bundle.oInit) (a (mvT hZ (wT hw 16 rfl)))
  obtain ⟨eO', cO, vO', z3, z4, -, -, z5, -, z6⟩ := Cond.code_spec nO (a (mvT hZ (wT hw 17 rfl)))
  cases vO.symm.trans vO'
  obtain ⟨kO, hkO, knO⟩ := Vm.findClass_spec (findClass_of_methodNamed nO)
  obtain ⟨nmO, dsO⟩ := name_of_methodNamed nO vO
  obtain ⟨l1a, l1b, cf, l1c, l1d, hcf, l1e⟩ := Cond.linkedMethod hc hk nO (a (mvT hZ (wT hw 231 rfl))) pl hp3
  obtain ⟨l2a, l2b, cf2, l2c, l2d, hcf2, l2e⟩ := Cond.linkedMethod hc hk nF (a (mvT hZ (wT hw 240 rfl))) pl hp3
  cases hcf.symm.trans hcf2
  obtain ⟨l3a, l3b, cf3, l3c, l3d, hcf3, l3e⟩ := Cond.linkedMethod hc hk n0 (a (mvT hZ (wT hw 253 rfl))) pl hp3
  cases hcf.symm.trans hcf3
  obtain ⟨a7, i7, f7, b7, d7, e7, s7, u7, -, -, -⟩ := Cond.ownField hc hk (t := .object oT) (by decide +kernel) (a (mvT hZ (wT hw 232 rfl))) (a (mvT hZ (wT hw 254 rfl))) pl hp3
  obtain ⟨a17, i17, f17, b17, d17, e17, s17, u17, n17, t17, g17⟩ := Cond.ownField hc hk (t := .array (.object "java/lang/StackTraceElement")) (by decide +kernel) (a (mvT hZ (wT hw 235 rfl))) (a (mvT hZ (wT hw 255 rfl))) pl hp3
  obtain ⟨a24, i24, f24, b24, d24, e24, s24, u24, n24, -, g24⟩ := Cond.ownField hc hk (t := .object "java/util/List") (by decide +kernel) (a (mvT hZ (wT hw 238 rfl))) (a (mvT hZ (wT hw 239 rfl))) pl hp3
  obtain ⟨a13, i13, f13, sa, _, b13, d13, e13, s13, -, -, hsa, -, -, -, -, g13⟩ := Cond.ownStatic hc hk (t := .array (.object "java/lang/StackTraceElement")) (by decide +kernel) (a (mvT hZ (wT hw 234 rfl))) (a (hT.lays hZ (wT hw 260 rfl))) pl hp3
  obtain ⟨a20, i20, f20, _, _, b20, d20, e20, s20, -⟩ := Cond.ownStatic hc hk (t := .object "java/util/List") (by decide +kernel) (a (mvT hZ (wT hw 237 rfl))) (a (hT.lays hZ (wT hw 261 rfl))) pl hp3
  obtain ⟨cV, kV, _, _, _, _, hV, hkV, -⟩ := Cond.lays_spec (a (mvT hZ (wT hw 239 rfl)))
  obtain ⟨-, w17, r17, o17⟩ := Cond.laysAt hV hkV g17 (a (mvT hZ (wT hw 236 rfl)))
  obtain ⟨-, w24, r24, o24⟩ := Cond.laysAt hV hkV g24 (a (mvT hZ (wT hw 239 rfl)))
  exact ⟨{ cT := c, kT := k, cO := c, aS := sa, fillIdx := jF, fill0Idx := j0, initSIdx := j0, obj := mO, kObj := kO, methFill := mF, methFill0 := m0, methInitS := m0, methObj := eO, codeFill := cF, codeInitS := cF, codeObj := cO, fBack := f7, fDepth := f7, fStack := f17, fCause := f7, fSupp := f24, fMsg := f7, fUnassigned := f13, fSentinel := f20, cfT := cf, ci1 := l1a, n1 := l1b, ci27 := l2a, n27 := l2b, ci202 := l3a, n202 := l3b, ci7 := a7, i7 := i7, ci13 := a13, i13 := i13, ci17 := a17, i17 := i17, ci20 := a20, i20 := i20, ci24 := a24, i24 := i24 },
    ⟨hp1, hp2, hk, kn, Vm.findClass_boot hc hk, ki, Cond.initialized_spec hc hk (a (mvT hZ (wT hw 229 rfl))), hsa, y1, y4, y5.trans (by decide +kernel), y6, y8, y2, y3, y7, o_sig y9 (by decide +kernel), x5, x8, x9, o_sig x4 (by decide +kernel), x6, x1, x2, x3, x7, s17, u17, s13, hkO, knO, vO, nmO, z1, z2, by rw [dsO]; exact lookupSpecial_of_named nO vO z1, by rw [o_sig (ps := []) z6 (by decide +kernel)]; rfl, z3, z4.trans (by decide +kernel), z5, s7, u7, s20, s24, u24, s7, u7, Cond.laysApart r17 r24 o17 o24 (by rw [n17, n24]; decide), hcf, l1c, l1d, l1e, l2c, l2d, l2e, l3c, l3d, l3e, b7, d7, e7, b13, d13, e13, b17, d17, e17, b20, d20, e20, b24, d24, e24⟩, hc, nF, n0, g17, g13, t17⟩

theorem o_fillS {p : Program} {l : Launch} {e : Env} {R : Room} {s : State} {m : MethodId} {args : Array Value} {below : List Frame} {meth : Method} {cd : Code} {T : State} {locs : List Loc} {cells slots : Nat} {Z : State} {h : Heap} {a0 : Array Value}
    (X : Stand p l e R s m args below meth cd T locs cells slots) (hx : p.tables.exec = Jvm.exec) (hl : l.stackTraces = true) (hZ : Z.Warmed39 s.vm) (hw : ∀ d ∈ tables_1, d.before a0 Z = true) (hT : ThS Z s.heap) (hK : s.vm.MethodsKnown ∧ s.vm.FramesKnown below) (hown : s.vm.findClass oT = some m.cls) (eT : T.heap = h)
    {b : Addr} (E : Exa Z h b oV) (N : Unt h b) (B : Fld Z h b oT "backtrace" "Ljava/lang/Object;" .null) {u : Value} (hu : u.isRef = true) (S : Fld Z h b oT "stackTrace" "[Ljava/lang/StackTraceElement;" u) (U : Sta Z h oT "UNASSIGNED_STACK" "[Ljava/lang/StackTraceElement;" u)
    {g : JFrame} (hg : g.method = m) (hsize : g.locals.size = cd.maxLocals) {rest : List Value} (hs : g.stack = .ref b :: rest) (hd : decode cd.code g.pc = .ok (.invokevirtual 27, 3)) (hf : 3 ≤ R.frames) (hlo : 2 * g.monitorRoom + (rest.map fun v => v.category).sum + 42 ≤ R.locals) (hc : cells + 1 ≤ R.cells) (hsl : slots + 2752 ≤ R.slots) :
    ∃ T' L, Stand p l e R s m args below meth cd T' (locs ++ L) (cells + 1) (slots + 2752) ∧ (∀ x ∈ L, Jvm.Free.Exc.Six s b x) ∧ ∀ target, Steps p.tables e below (T'.setTop { g with pc := g.pc + 3, stack := .ref b :: rest }) target → Steps p.tables e below (T.setTop g) target := by
  have a : ∀ {d : Cond}, d.before args s = true → d.holds args s none s [] = true := fun h => h
  have hal := hZ.alike
  obtain ⟨C, L, t1, t2, t3, t4, t5, t6⟩ := o_TC (args := args) (pl := e.platform) hZ hT hw (by rw [X.admits.platform]) (by rw [X.admits.platform]) (by rw [X.admits.platform])
  obtain ⟨cq, kq, qa, qb, qc⟩ := isOf hZ eT E
  obtain ⟨cell, kc, h1, h2, h3, -, h5⟩ := E
  obtain ⟨c2, u1, u2, u3⟩ := N
  cases h1.symm.trans u1
  obtain ⟨c4, k2, i1, i2, i3, -⟩ := Cond.instantiable_spec (wT hw 206 rfl)
  cases h2.symm.trans i1
  cases h3.symm.trans i2
  obtain ⟨ks, q1, q2⟩ := hal.2.2 _ _ h3
  have hV : s.vm.findClass oV = some cell.cls := by rw [hal.findClass]; exact h2
  have ord : ks.kind = .ordinary := by rw [q2]; exact i3
  have hsz : cell.slots.size = ks.instanceTypes.size := by rw [q2]; exact h5 i3
  have tk : ∀ {f : Field} {v : Value}, ks.instanceTypes[f.slot]? = some f.type → fits f.type v = true → Jvm.Takes s cell f v := fun {f v} r1 r2 => by
    obtain ⟨z1, z2⟩ := Takes.of_laid (v := v) q1 ord r1 r2
    exact ⟨by rw [hsz]; simpa using z1, by rw [u2]; exact z2⟩
  have hsel : selectMethod e.platform s.vm cell.cls C.fill0 = .method C.fill0 := by
    obtain ⟨c2, r2, m2, s1, s2, s3, s4, -⟩ := Cond.selects_spec (y := Jvm.Bundle.tFill0) (a (mvT hZ (wT hw 262 rfl)))
    cases s1.symm.trans hV
    cases s2.symm.trans (State.methodFound?_of_named t3 (by decide))
    cases s3.symm.trans t3
    rw [Launch.admits_selectMethod X.admits]; exact s4
  obtain ⟨_, _, k9, f9, st, cS, r1, r2, r3, r4, r5, r6, r7⟩ := U
  obtain ⟨k8, y1, y2⟩ := State.fieldFound?_setVm hal r1
  have es : k8.statics = some st := by rw [y2]; exact r4
  cases (show s.fieldFound? oT "UNASSIGNED_STACK" "[Ljava/lang/StackTraceElement;" = _ from y1).symm.trans t5
  cases es.symm.trans L.statics
  have ne : C.aS ≠ b := fun z => by rw [z, h1] at r5; cases r5; rw [u2] at r6; cases r6
  obtain ⟨c5, _, k5, _, f5, w1, w2, -, -, -, -, w7⟩ := S
  cases h1.symm.trans w1
  obtain ⟨k6, y3, -⟩ := State.fieldFound?_setVm hal w2
  cases (show s.fieldFound? oT "stackTrace" "[Ljava/lang/StackTraceElement;" = _ from y3).symm.trans t4
  obtain ⟨b1, b2, fb, b3, b4, b5, b6, -, b7, b8, b9⟩ := Cond.ownField t1 L.cls (t := .object "java/lang/Object") (by decide +kernel) (a (mvT hZ (wT hw 258 rfl))) (a (mvT hZ (wT hw 259 rfl))) e.platform (by rw [X.admits.platform])
  obtain ⟨c6, _, k7, _, f7, v1, v2, -, -, -, -, v7⟩ := B
  cases h1.symm.trans v1
  obtain ⟨k10, y4, -⟩ := State.fieldFound?_setVm hal v2
  cases (show s.fieldFound? oT "backtrace" "Ljava/lang/Object;" = _ from y4).symm.trans b9
  obtain ⟨_, _, cD, kD, iD, fD, -, -, gD, sD, -⟩ := Cond.lays_spec (a (mvT hZ (wT hw 265 rfl)))
  cases (Cond.lays_declared (a (mvT hZ (wT hw 265 rfl))) gD).symm.trans t1
  obtain ⟨hkD, atD⟩ := State.fieldFound?_spec gD
  cases hkD.symm.trans L.cls
  obtain ⟨nD, tD⟩ := State.fieldFound?_type gD (t := .int) (by decide +kernel)
  obtain ⟨comp, cO, kO, -, -, o1, o2, o3⟩ := Cond.arrayOver_spec (a (mvX hT hZ rfl (wT hw 244 rfl)))
  have tyS := (Cond.laysAt hV q1 t4 (a (mvT hZ (wT hw 236 rfl)))).1
  have tyB := (Cond.laysAt hV q1 b9 (a (mvT hZ (wT hw 264 rfl)))).1
  have tyD := (Cond.laysAt hV q1 gD (a (mvT hZ (wT hw 265 rfl)))).1
  obtain ⟨v, _, ⟨T', L', c', n'⟩, -, X', ⟨e1, _, n, hn, -, -, -, -, -, e2, e3, e4⟩, st9⟩ := X.virtualBack hx (y := Jvm.Bundle.tFill) (z := Jvm.Bundle.tFill) hown (mvT hZ (wT hw 240 rfl)) (mvT hZ (wT hw 241 rfl)) (notFace_of_selects (args := #[]) (mvT hZ (wT hw 243 rfl))) (mvT hZ (wT hw 243 rfl)) (mvT hZ (wT hw 242 rfl)) (by decide)
    (Jvm.Free.Exc.fillPaysAny (l := l) (R := R) (len := 3) (W := 2 * g.monitorRoom + (rest.map fun v => v.category).sum) (sargs := args) (below := below) hx (by rw [X.admits.platform]; exact hl) C L t2 (u0 := ⟨u, hu⟩) (self := b) (cell := cell) (cellS := cS) (fun k => by rw [u2]; simp) (by rw [u2]; simp) (by rw [u3]) (by rw [u3]) w7 hsel ne (fun z => by rw [z] at r6; cases r6) r7 (tk tyS (by rw [t6]; exact fits_refV_array _ ⟨u, hu⟩)) ⟨⟨b1, b2, fb⟩, ⟨b3, b4, b5, b6⟩, v7⟩ hK.1 hK.2 t1 o3 o1 o2 (Cond.soleField_find t1 L.cls (a (mvT hZ (wT hw 245 rfl))) b5 b7 b6) (Cond.soleField_find t1 L.cls (a (mvT hZ (wT hw 246 rfl))) atD nD sD) (fun z => tk tyB (by rw [b8]; rfl)) (fun z => tk tyD (by rw [tD]; rfl)) hf hlo)
    qa qc hg hsize (Steps.refl _) (argsL := []) (rest := rest) (fun sig q => by rw [o_sig (ps := []) q (by decide +kernel)]; rfl) hs (Nat.le_refl _) hd (fun _ _ => ⟨rfl, hc, hsl, by show T.heap[b]? = _; rw [eT]; exact h1, by show T.heap[C.aS]? = _; rw [eT]; exact r5⟩)
  dsimp only [Pt.U, Pt.locs, Pt.cells, Pt.slots] at X' e2 e3 e4 st9
  subst e1 e2 e3 e4
  refine ⟨T', _, X'.more (Nat.le_refl _) (Nat.add_le_add_left hn _), ?_, fun target q => st9.trans q⟩
  intro x hx9
  simp only [List.mem_cons, List.not_mem_nil, or_false] at hx9
  rcases hx9 with rfl | rfl | rfl
  · exact ⟨("backtrace", "Ljava/lang/Object;"), fb, List.mem_of_getElem? (i := 3) rfl, ⟨_, _, _, b9⟩, rfl⟩
  · exact ⟨("depth", "I"), fD, List.mem_of_getElem? (i := 4) rfl, ⟨_, _, _, gD⟩, rfl⟩
  · exact ⟨("stackTrace", "[Ljava/lang/StackTraceElement;"), C.fStack, List.mem_of_getElem? (i := 1) rfl, ⟨_, _, _, t4⟩, rfl⟩
theorem o_six_type {Z : State} {a0 : Array Value} (hw : ∀ d ∈ tables_1, d.before a0 Z = true) : ∀ nd ∈ Jvm.Free.Exc.sixNames, RoadKit.slotOf Z oT nd.1 nd.2 ≠ RoadKit.slotOf Z oV "type" "Ljava/lang/String;" := List.forall_mem_cons.mpr ⟨slot_ne (Or.inl (wT hw 233 rfl)) (Or.inr (wT hw 269 rfl)) (by decide) (t := (.object oT)) (t' := (.object oS)) (by decide) (by decide), List.forall_mem_cons.mpr ⟨slot_ne (Or.inl (wT hw 236 rfl)) (Or.inr (wT hw 269 rfl)) (by decide) (t := (.array (.object "java/lang/StackTraceElement"))) (t' := (.object oS)) (by decide) (by decide), List.forall_mem_cons.mpr ⟨slot_ne (Or.inl (wT hw 239 rfl)) (Or.inr (wT hw 269 rfl)) (by decide) (t := (.object "java/util/List")) (t' := (.object oS)) (by decide) (by decide), List.forall_mem_cons.mpr ⟨slot_ne (Or.inl (wT hw 264 rfl)) (Or.inr (wT hw 269 rfl)) (by decide) (t := (.object "java/lang/Object")) (t' := (.object oS)) (by decide) (by decide), List.forall_mem_cons.mpr ⟨slot_ne (Or.inl (wT hw 265 rfl)) (Or.inr (wT hw 269 rfl)) (by decide) (t := .int) (t' := (.object oS)) (by decide) (by decide), List.forall_mem_cons.mpr ⟨slot_ne (Or.inl (wT hw 263 rfl)) (Or.inr (wT hw 269 rfl)) (by decide) (t := (.object oS)) (t' := (.object oS)) (by decide) (by decide), (fun _ q => nomatch q)⟩⟩⟩⟩⟩⟩
theorem o_six_id {Z : State} {a0 : Array Value} (hw : ∀ d ∈ tables_1, d.before a0 Z = true) : ∀ nd ∈ Jvm.Free.Exc.sixNames, RoadKit.slotOf Z oT nd.1 nd.2 ≠ RoadKit.slotOf Z oV "id" "Ljava/lang/String;" := List.forall_mem_cons.mpr ⟨slot_ne (Or.inl (wT hw 233 rfl)) (Or.inr (wT hw 271 rfl)) (by decide) (t := (.object oT)) (t' := (.object oS)) (by decide) (by decide), List.forall_mem_cons.mpr ⟨slot_ne (Or.inl (wT hw 236 rfl)) (Or.inr (wT hw 271 rfl)) (by decide) (t := (.array (.object "java/lang/StackTraceElement"))) (t' := (.object oS)) (by decide) (by decide), List.forall_mem_cons.mpr ⟨slot_ne (Or.inl (wT hw 239 rfl)) (Or.inr (wT hw 271 rfl)) (by decide) (t := (.object "java/util/List")) (t' := (.object oS)) (by decide) (by decide), List.forall_mem_cons.mpr ⟨slot_ne (Or.inl (wT hw 264 rfl)) (Or.inr (wT hw 271 rfl)) (by decide) (t := (.object "java/lang/Object")) (t' := (.object oS)) (by decide) (by decide), List.forall_mem_cons.mpr ⟨slot_ne (Or.inl (wT hw 265 rfl)) (Or.inr (wT hw 271 rfl)) (by decide) (t := .int) (t' := (.object oS)) (by decide) (by decide), List.forall_mem_cons.mpr ⟨slot_ne (Or.inl (wT hw 263 rfl)) (Or.inr (wT hw 271 rfl)) (by decide) (t := (.object oS)) (t' := (.object oS)) (by decide) (by decide), (fun _ q => nomatch q)⟩⟩⟩⟩⟩⟩
theorem o_six_expectedVersion {Z : State} {a0 : Array Value} (hw : ∀ d ∈ tables_1, d.before a0 Z = true) : ∀ nd ∈ Jvm.Free.Exc.sixNames, RoadKit.slotOf Z oT nd.1 nd.2 ≠ RoadKit.slotOf Z oV "expectedVersion" "J" := List.forall_mem_cons.mpr ⟨slot_ne (Or.inl (wT hw 233 rfl)) (Or.inr (wT hw 273 rfl)) (by decide) (t := (.object oT)) (t' := .long) (by decide) (by decide), List.forall_mem_cons.mpr ⟨slot_ne (Or.inl (wT hw 236 rfl)) (Or.inr (wT hw 273 rfl)) (by decide) (t := (.array (.object "java/lang/StackTraceElement"))) (t' := .long) (by decide) (by decide), List.forall_mem_cons.mpr ⟨slot_ne (Or.inl (wT hw 239 rfl)) (Or.inr (wT hw 273 rfl)) (by decide) (t := (.object "java/util/List")) (t' := .long) (by decide) (by decide), List.forall_mem_cons.mpr ⟨slot_ne (Or.inl (wT hw 264 rfl)) (Or.inr (wT hw 273 rfl)) (by decide) (t := (.object "java/lang/Object")) (t' := .long) (by decide) (by decide), List.forall_mem_cons.mpr ⟨slot_ne (Or.inl (wT hw 265 rfl)) (Or.inr (wT hw 273 rfl)) (by decide) (t := .int) (t' := .long) (by decide) (by decide), List.forall_mem_cons.mpr ⟨slot_ne (Or.inl (wT hw 263 rfl)) (Or.inr (wT hw 273 rfl)) (by decide) (t := (.object oS)) (t' := .long) (by decide) (by decide), (fun _ q => nomatch q)⟩⟩⟩⟩⟩⟩
theorem o_six_currentVersion {Z : State} {a0 : Array Value} (hw : ∀ d ∈ tables_1, d.before a0 Z = true) : ∀ nd ∈ Jvm.Free.Exc.sixNames, RoadKit.slotOf Z oT nd.1 nd.2 ≠ RoadKit.slotOf Z oV "currentVersion" "Ljava/lang/Long;" := List.forall_mem_cons.mpr ⟨slot_ne (Or.inl (wT hw 233 rfl)) (Or.inr (wT hw 275 rfl)) (by decide) (t := (.object oT)) (t' := (.object "java/lang/Long")) (by decide) (by decide), List.forall_mem_cons.mpr ⟨slot_ne (Or.inl (wT hw 236 rfl)) (Or.inr (wT hw 275 rfl)) (by decide) (t := (.array (.object "java/lang/StackTraceElement"))) (t' := (.object "java/lang/Long")) (by decide) (by decide), List.forall_mem_cons.mpr ⟨slot_ne (Or.inl (wT hw 239 rfl)) (Or.inr (wT hw 275 rfl)) (by decide) (t := (.object "java/util/List")) (t' := (.object "java/lang/Long")) (by decide) (by decide), List.forall_mem_cons.mpr ⟨slot_ne (Or.inl (wT hw 264 rfl)) (Or.inr (wT hw 275 rfl)) (by decide) (t := (.object "java/lang/Object")) (t' := (.object "java/lang/Long")) (by decide) (by decide), List.forall_mem_cons.mpr ⟨slot_ne (Or.inl (wT hw 265 rfl)) (Or.inr (wT hw 275 rfl)) (by decide) (t := .int) (t' := (.object "java/lang/Long")) (by decide) (by decide), List.forall_mem_cons.mpr ⟨slot_ne (Or.inl (wT hw 263 rfl)) (Or.inr (wT hw 275 rfl)) (by decide) (t := (.object oS)) (t' := (.object "java/lang/Long")) (by decide) (by decide), (fun _ q => nomatch q)⟩⟩⟩⟩⟩⟩
theorem o_six_changedBy {Z : State} {a0 : Array Value} (hw : ∀ d ∈ tables_1, d.before a0 Z = true) : ∀ nd ∈ Jvm.Free.Exc.sixNames, RoadKit.slotOf Z oT nd.1 nd.2 ≠ RoadKit.slotOf Z oV "changedBy" "Ljava/lang/String;" := List.forall_mem_cons.mpr ⟨slot_ne (Or.inl (wT hw 233 rfl)) (Or.inr (wT hw 277 rfl)) (by decide) (t := (.object oT)) (t' := (.object oS)) (by decide) (by decide), List.forall_mem_cons.mpr ⟨slot_ne (Or.inl (wT hw 236 rfl)) (Or.inr (wT hw 277 rfl)) (by decide) (t := (.array (.object "java/lang/StackTraceElement"))) (t' := (.object oS)) (by decide) (by decide), List.forall_mem_cons.mpr ⟨slot_ne (Or.inl (wT hw 239 rfl)) (Or.inr (wT hw 277 rfl)) (by decide) (t := (.object "java/util/List")) (t' := (.object oS)) (by decide) (by decide), List.forall_mem_cons.mpr ⟨slot_ne (Or.inl (wT hw 264 rfl)) (Or.inr (wT hw 277 rfl)) (by decide) (t := (.object "java/lang/Object")) (t' := (.object oS)) (by decide) (by decide), List.forall_mem_cons.mpr ⟨slot_ne (Or.inl (wT hw 265 rfl)) (Or.inr (wT hw 277 rfl)) (by decide) (t := .int) (t' := (.object oS)) (by decide) (by decide), List.forall_mem_cons.mpr ⟨slot_ne (Or.inl (wT hw 263 rfl)) (Or.inr (wT hw 277 rfl)) (by decide) (t := (.object oS)) (t' := (.object oS)) (by decide) (by decide), (fun _ q => nomatch q)⟩⟩⟩⟩⟩⟩
theorem o_six_changedAt {Z : State} {a0 : Array Value} (hw : ∀ d ∈ tables_1, d.before a0 Z = true) : ∀ nd ∈ Jvm.Free.Exc.sixNames, RoadKit.slotOf Z oT nd.1 nd.2 ≠ RoadKit.slotOf Z oV "changedAt" "Ljava/time/Instant;" := List.forall_mem_cons.mpr ⟨slot_ne (Or.inl (wT hw 233 rfl)) (Or.inr (wT hw 279 rfl)) (by decide) (t := (.object oT)) (t' := (.object "java/time/Instant")) (by decide) (by decide), List.forall_mem_cons.mpr ⟨slot_ne (Or.inl (wT hw 236 rfl)) (Or.inr (wT hw 279 rfl)) (by decide) (t := (.array (.object "java/lang/StackTraceElement"))) (t' := (.object "java/time/Instant")) (by decide) (by decide), List.forall_mem_cons.mpr ⟨slot_ne (Or.inl (wT hw 239 rfl)) (Or.inr (wT hw 279 rfl)) (by decide) (t := (.object "java/util/List")) (t' := (.object "java/time/Instant")) (by decide) (by decide), List.forall_mem_cons.mpr ⟨slot_ne (Or.inl (wT hw 264 rfl)) (Or.inr (wT hw 279 rfl)) (by decide) (t := (.object "java/lang/Object")) (t' := (.object "java/time/Instant")) (by decide) (by decide), List.forall_mem_cons.mpr ⟨slot_ne (Or.inl (wT hw 265 rfl)) (Or.inr (wT hw 279 rfl)) (by decide) (t := .int) (t' := (.object "java/time/Instant")) (by decide) (by decide), List.forall_mem_cons.mpr ⟨slot_ne (Or.inl (wT hw 263 rfl)) (Or.inr (wT hw 279 rfl)) (by decide) (t := (.object oS)) (t' := (.object "java/time/Instant")) (by decide) (by decide), (fun _ q => nomatch q)⟩⟩⟩⟩⟩⟩
theorem o_six_deleted {Z : State} {a0 : Array Value} (hw : ∀ d ∈ tables_1, d.before a0 Z = true) : ∀ nd ∈ Jvm.Free.Exc.sixNames, RoadKit.slotOf Z oT nd.1 nd.2 ≠ RoadKit.slotOf Z oV "deleted" "Z" := List.forall_mem_cons.mpr ⟨slot_ne (Or.inl (wT hw 233 rfl)) (Or.inr (wT hw 281 rfl)) (by decide) (t := (.object oT)) (t' := .boolean) (by decide) (by decide), List.forall_mem_cons.mpr ⟨slot_ne (Or.inl (wT hw 236 rfl)) (Or.inr (wT hw 281 rfl)) (by decide) (t := (.array (.object "java/lang/StackTraceElement"))) (t' := .boolean) (by decide) (by decide), List.forall_mem_cons.mpr ⟨slot_ne (Or.inl (wT hw 239 rfl)) (Or.inr (wT hw 281 rfl)) (by decide) (t := (.object "java/util/List")) (t' := .boolean) (by decide) (by decide), List.forall_mem_cons.mpr ⟨slot_ne (Or.inl (wT hw 264 rfl)) (Or.inr (wT hw 281 rfl)) (by decide) (t := (.object "java/lang/Object")) (t' := .boolean) (by decide) (by decide), List.forall_mem_cons.mpr ⟨slot_ne (Or.inl (wT hw 265 rfl)) (Or.inr (wT hw 281 rfl)) (by decide) (t := .int) (t' := .boolean) (by decide) (by decide), List.forall_mem_cons.mpr ⟨slot_ne (Or.inl (wT hw 263 rfl)) (Or.inr (wT hw 281 rfl)) (by decide) (t := (.object oS)) (t' := .boolean) (by decide) (by decide), (fun _ q => nomatch q)⟩⟩⟩⟩⟩⟩
theorem o_fl {Z : State} {h : Heap} {a0 : Array Value} {a : Addr} {C O n d : String} {k : Nat} (E : Exa Z h a C) (N : Unt h a) (wi : (Cond.instantiable C k).before a0 Z = true) (wl : Laid Z a0 C O n d) : ∃ v, Fld Z h a O n d v := fld_laid E (let ⟨c, q1, q2, _⟩ := N; ⟨c, q1, by rw [q2]; simp⟩) wi wl
def o_S6 (Z : State) (a : Addr) (L : List Loc) : Prop := ∀ x ∈ L, ∃ nd ∈ Jvm.Free.Exc.sixNames, x = ⟨a, RoadKit.slotOf Z oT nd.1 nd.2⟩
theorem o_S6n {Z : State} {a : Addr} : o_S6 Z a [] := fun _ q => nomatch q
theorem o_S6s {Z : State} {a : Addr} {L : List Loc} (h : o_S6 Z a L) (i : Nat) {n d : String} (q : Jvm.Free.Exc.sixNames[i]? = some (n, d)) : o_S6 Z a (L ++ [⟨a, RoadKit.slotOf Z oT n d⟩]) := fun x hx => (List.mem_append.mp hx).elim (h x) fun z => ⟨(n, d), List.mem_of_getElem? q, List.mem_singleton.mp z⟩
theorem o_S6a {Z s : State} {a : Addr} {L L' : List Loc} (hZ : Z.Warmed39 s.vm) (h : o_S6 Z a L) (q : ∀ x ∈ L', Jvm.Free.Exc.Six s a x) : o_S6 Z a (L ++ L') := fun x hx => (List.mem_append.mp hx).elim (h x) fun z => six_slot hZ (q x z)
theorem o_S6f {Z : State} {a : Addr} {L L' : List Loc} {n0 : Nat} (h : o_S6 Z a (L ++ L')) (g : n0 ≤ a) : Fr n0 (L ++ L') := fun y hy => by
  obtain ⟨nd, -, rfl⟩ := h y hy; exact g
theorem o_kpS {p : Program} {l : Launch} {e : Env} {R : Room} {s : State} {m : MethodId} {args : Array Value} {below : List Frame} {meth : Method} {c : Code} {T : State} {L : List Loc} {cells slots : Nat} {Z : State} {h : Heap} {a : Addr} (X : Stand p l e R s m args below meth c T L cells slots) (hh : s.heap = h) (hL : o_S6 Z a L) : Kp Z h T.heap a := by
  subst hh
  refine ⟨X.same.2.1, fun y cy hy => ?_⟩
  obtain ⟨c', q1, q2, q3, q4⟩ := X.same.2.2.2.2.2 y cy hy
  refine ⟨c', q1, q2, q3, fun ne => ?_, fun i hi => q4 i fun hm => ?_⟩
  · rw [q2]
    have : c'.slots = cy.slots := Array.ext_getElem? fun i => q4 i fun hm => by
      obtain ⟨nd, -, q⟩ := hL _ hm
      exact ne (congrArg Loc.base q)
    rw [this]
  · obtain ⟨nd, h1, h2⟩ := hL _ hm
    exact hi nd h1 (congrArg Loc.slot h2).symm
theorem o_OldK {Z : State} {n0 : Nat} {h h2 : Heap} {a : Addr} (O : Old Z n0 h) (K : Keep h h2 [a]) (g : n0 ≤ a) : Old Z n0 h2 := O.keep K fun x hx => by rw [List.mem_singleton.mp hx]; exact g
def Q_rmTi (Z : State) (ex : Addr) (mm : Addr) (h0 : Heap) (n0 : Nat) (v : Option Value) (h : Heap) (L : List Loc) : Prop := v = none ∧ Fr n0 L ∧ Keep h0 h [ex] ∧ Exa Z h ex oV ∧ Kp Z h0 h ex ∧ Fld Z h ex oT "detailMessage" "Ljava/lang/String;" (.ref mm) ∧ True
theorem o_h473 : plainName oT = true := by first | (simp [plainName, overriddenIn]; done) | decide +kernel
theorem o_h474 : decode jdk_78_method_2_code 0 = .ok (.aload_n 0, 1) := by decide +kernel
theorem o_h475 : decode jdk_78_method_2_code 1 = .ok (.invokespecial 1, 3) := by decide +kernel
theorem o_h476 : decode jdk_78_method_2_code 4 = .ok (.aload_n 0, 1) := by decide +kernel
theorem o_h477 : decode jdk_78_method_2_code 5 = .ok (.aload_n 0, 1) := by decide +kernel
theorem o_h478 : decode jdk_78_method_2_code 6 = .ok (.putfield 7, 3) := by decide +kernel
theorem o_h479 : decode jdk_78_method_2_code 9 = .ok (.aload_n 0, 1) := by decide +kernel
theorem o_h480 : decode jdk_78_method_2_code 10 = .ok (.getstatic 13, 3) := by decide +kernel
theorem o_h481 : decode jdk_78_method_2_code 13 = .ok (.putfield 17, 3) := by decide +kernel
theorem o_h482 : decode jdk_78_method_2_code 16 = .ok (.aload_n 0, 1) := by decide +kernel
theorem o_h483 : decode jdk_78_method_2_code 17 = .ok (.getstatic 20, 3) := by decide +kernel
theorem o_h484 : decode jdk_78_method_2_code 20 = .ok (.putfield 24, 3) := by decide +kernel
theorem o_h485 : decode jdk_78_method_2_code 23 = .ok (.aload_n 0, 1) := by decide +kernel
theorem o_h486 : decode jdk_78_method_2_code 24 = .ok (.invokevirtual 27, 3) := by decide +kernel
theorem o_h487 : decode jdk_78_method_2_code 27 = .ok (.pop, 1) := by decide +kernel
theorem o_h488 : decode jdk_78_method_2_code 28 = .ok (.aload_n 0, 1) := by decide +kernel
theorem o_h489 : decode jdk_78_method_2_code 29 = .ok (.aload_n 1, 1) := by decide +kernel
theorem o_h490 : decode jdk_78_method_2_code 30 = .ok (.putfield 31, 3) := by decide +kernel
theorem o_h491 : decode jdk_78_method_2_code 33 = .ok (.return_, 1) := by decide +kernel
theorem rmTi (l : Launch) (Z : State) (a0 : Array Value) (hw : ∀ d ∈ tables_1, d.before a0 Z = true) (ws : List Jvm.Cond) (ex : Addr) (mm : Addr) (h0 : Heap) (n0 : Nat) (Z0 : n0 ≤ h0.size) (f0_ : Exa Z h0 ex oV) (f1_ : Unt h0 ex) (f2_ : Fld Z h0 ex oT "backtrace" "Ljava/lang/Object;" .null) (f3_ : Fld Z h0 ex oT "detailMessage" "Ljava/lang/String;" .null) (f4_ : n0 ≤ ex) (f5_ : Old Z n0 h0) (hst : l.stackTraces = true) (hr2 : ∀ d ∈ twoRefs, d.before a0 Z = true)  :
    MetFree l (⟨oT, "<init>", "(Ljava/lang/String;)V"⟩ : MethodName) (head1 (Jvm.Cond.code (⟨oT, "<init>", "(Ljava/lang/String;)V"⟩ : MethodName) jdk_78_method_2_code 2 none :: ws) (rO 3 1 2752 42)) (fun ar_ U => ar_ = #[.ref ex, .ref mm] ∧ Z.Warmed39 U.vm ∧ U.heap = h0) (fun _ _ bl s _ => s.vm.MethodsKnown ∧ s.vm.FramesKnown bl) (fun _ U o U' => ∃ v L, o = .returned v ∧ Q_rmTi Z ex mm h0 n0 v U'.heap L ∧ FrameEnd U o U' L (rO 3 1 2752 42).cells (rO 3 1 2752 42).slots) := by
 refine MetFree.of_bodySF (plainFor_of_name o_h473) hisR ?_
 intro p e s m args below meth c s₁ Bd hml0 hP hK
 obtain ⟨rfl, hZ, hh⟩ := hP
 have hx := Bd.exec
 have hby := Bd.bytes
 have hml : c.maxLocals = 2 := hml0
 have hown : s.vm.findClass oT = some m.cls := findClass_of_methodNamed Bd.named
 have hnm := (name_of_methodNamed Bd.named Bd.method).1
 have hTK := Vm.MethodsKnown.alikeC hZ.alike.symm hK.1
 have hBl := Vm.FramesKnown.alikeC hZ.alike.symm hK.2
 have X0 : Stand p l e (rO 3 1 2752 42) s m #[.ref ex, .ref mm] below meth c s₁ [] 0 0 := Stand.of_body Bd
 have e0 : s₁.heap = h0 := by rw [← hh, Bd.state]; rfl
 have N0 := Fr.nil n0
 obtain ⟨B_, hB_⟩ : ∃ z, z = s₁.setTop (entryFrame m #[.ref ex, .ref mm] 2) := ⟨_, rfl⟩
 have k0 : o_K p e below (s₁.setTop (mkF m 0 #[.val (.ref ex), .val (.ref mm)] [])) B_ := by rw [hB_]; exact fun t k => castTop (by clear k; first | (simp [entryFrame, mkF, argsToLocals, Value.category, maxLocals]; done) | rfl) k
 have K0 : Keep h0 h0 [ex] := Keep.refl _ _
 obtain ⟨vc_, Fc_⟩ := o_fl f0_ f1_ (wT hw 206 rfl) (Or.inl (wT hw 233 rfl))
 obtain ⟨vs_, Fs_⟩ := o_fl f0_ f1_ (wT hw 206 rfl) (Or.inl (wT hw 236 rfl))
 obtain ⟨vp_, Fp_⟩ := o_fl f0_ f1_ (wT hw 206 rfl) (Or.inl (wT hw 239 rfl))
 obtain ⟨uv, euv, huv⟩ := isR_v (Cond.before_iff.mp (hr2 _ (List.mem_cons_self ..)))
 have su_ : Sta Z Z.heap oT "UNASSIGNED_STACK" "[Ljava/lang/StackTraceElement;" uv := Sta.start euv (Or.inr ⟨(wT hw 229 rfl), (wT hw 260 rfl)⟩)
 obtain ⟨wv, ewv, hwv⟩ := isR_v (Cond.before_iff.mp (hr2 _ (List.mem_of_getElem? (i := 1) rfl)))
 have sw_ : Sta Z Z.heap oT "SUPPRESSED_SENTINEL" "Ljava/util/List;" wv := Sta.start ewv (Or.inr ⟨(wT hw 229 rfl), (wT hw 261 rfl)⟩)
 have k1 : o_J p e below s₁ m 1 #[vR ex, vR mm] [.ref ex] B_ := fun t_ hh => k0 t_ (by
  refine XS.aloadN X0.here hx rfl (hb hby o_h474) rfl rfl ?_
  exact hh)
 obtain ⟨T21, X22, e23, st24⟩ := initO X0 hx hZ hown (wT hw 231 rfl) (wT hw 16 rfl) (wT hw 17 rfl) e0 (g := (mkF m 1 #[vR ex, vR mm] [.ref ex])) rfl (by rw [hml]; rfl) rfl (hb hby o_h475) (by decide) (W := 0) (o_w0 rfl) (by decide)
 have k2 : o_J p e below T21 m 4 #[vR ex, vR mm] [] B_ := fun t_ hh => k1 t_ (st24 t_ hh)
 clear k1 st24
 have k3 : o_J p e below T21 m 6 #[vR ex, vR mm] [.ref ex, .ref ex] B_ := fun t_ hh => k2 t_ (by
  refine XS.aloadN X22.here hx rfl (hb hby o_h476) rfl rfl ?_
  refine XS.aloadN X22.here hx rfl (hb hby o_h477) rfl rfl ?_
  exact hh)
 clear k2
 obtain ⟨T25, h26, X27, e28, W29, st30⟩ := putF X22 hx hZ hown (host := "") (Or.inl (wT hw 232 rfl)) Via.refl e23 Fc_ f0_ (Or.inl (wT hw 233 rfl)) (wT hw 206 rfl) (ty := .object oT) (by decide) rfl rfl (g := (mkF m 6 #[vR ex, vR mm] [.ref ex, .ref ex])) rfl rfl (hb hby o_h478)
 have N31 := Fr.snoc X27 N0 f4_
 have F32 := Exa.wr W29 f0_
 have F33 := Unt.wr W29 f1_
 have F34 := Fld.other W29 f2_ (Or.inr (slot_ne (Or.inl (wT hw 264 rfl)) (Or.inl (wT hw 233 rfl)) (by decide) (t := (.object "java/lang/Object")) (t' := (.object oT)) (by decide) (by decide)))
 have F35 := Fld.other W29 f3_ (Or.inr (slot_ne (Or.inl (wT hw 263 rfl)) (Or.inl (wT hw 233 rfl)) (by decide) (t := (.object oS)) (t' := (.object oT)) (by decide) (by decide)))
 have F36 : Fld Z h26 ex oT "cause" "Ljava/lang/Throwable;" (.ref ex) := Fld.same W29 Fc_
 have F37 := Fld.other W29 Fs_ (Or.inr (slot_ne (Or.inl (wT hw 236 rfl)) (Or.inl (wT hw 233 rfl)) (by decide) (t := (.array (.object "java/lang/StackTraceElement"))) (t' := (.object oT)) (by decide) (by decide)))
 have F38 := Fld.other W29 Fp_ (Or.inr (slot_ne (Or.inl (wT hw 239 rfl)) (Or.inl (wT hw 233 rfl)) (by decide) (t := (.object "java/util/List")) (t' := (.object oT)) (by decide) (by decide)))
 have Z41 : n0 ≤ h26.size := W29.size ▸ Z0
 have O42 := f5_.wr W29 f4_
 have P43 : Keep h0 h26 [ex] := K0.wr W29 (Or.inl (List.mem_of_getElem? (i := 0) rfl))
 have k4 : o_J p e below T25 m 9 #[vR ex, vR mm] [] B_ := fun t_ hh => k3 t_ (st30 t_ hh)
 clear k3 st30 X22 e23
 have k5 : o_J p e below T25 m 10 #[vR ex, vR mm] [.ref ex] B_ := fun t_ hh => k4 t_ (by
  refine XS.aloadN X27.here hx rfl (hb hby o_h479) rfl rfl ?_
  exact hh)
 clear k4
 obtain ⟨T44, X45, e46, st47⟩ := getS X27 hx hZ hown (host := "") (wT hw 234 rfl) Via.refl e28 (Sta.ext O42.2 su_) (g := (mkF m 10 #[vR ex, vR mm] [.ref ex])) rfl (hb hby o_h480)
 have k6 : o_J p e below T44 m 13 #[vR ex, vR mm] [uv, .ref ex] B_ := fun t_ hh => k5 t_ (st47 t_ hh)
 clear k5 st47 X27 e28
 obtain ⟨T48, h49, X50, e51, W52, st53⟩ := putF X45 hx hZ hown (host := "") (Or.inl (wT hw 235 rfl)) Via.refl e46 F37 F32 (Or.inl (wT hw 236 rfl)) (wT hw 206 rfl) (ty := .array (.object "java/lang/StackTraceElement")) (by decide) (narrow_isRef _ huv) (fits_refV_array _ ⟨uv, huv⟩) (g := (mkF m 13 #[vR ex, vR mm] [uv, .ref ex])) rfl rfl (hb hby o_h481)
 have N54 := Fr.snoc X50 N31 f4_
 have F55 := Exa.wr W52 F32
 have F56 := Unt.wr W52 F33
 have F57 := Fld.other W52 F34 (Or.inr (slot_ne (Or.inl (wT hw 264 rfl)) (Or.inl (wT hw 236 rfl)) (by decide) (t := (.object "java/lang/Object")) (t' := (.array (.object "java/lang/StackTraceElement"))) (by decide) (by decide)))
 have F58 := Fld.other W52 F35 (Or.inr (slot_ne (Or.inl (wT hw 263 rfl)) (Or.inl (wT hw 236 rfl)) (by decide) (t := (.object oS)) (t' := (.array (.object "java/lang/StackTraceElement"))) (by decide) (by decide)))
 have F59 := Fld.other W52 F36 (Or.inr (slot_ne (Or.inl (wT hw 233 rfl)) (Or.inl (wT hw 236 rfl)) (by decide) (t := (.object oT)) (t' := (.array (.object "java/lang/StackTraceElement"))) (by decide) (by decide)))
 have F60 : Fld Z h49 ex oT "stackTrace" "[Ljava/lang/StackTraceElement;" uv := Fld.same W52 F37
 have F61 := Fld.other W52 F38 (Or.inr (slot_ne (Or.inl (wT hw 239 rfl)) (Or.inl (wT hw 236 rfl)) (by decide) (t := (.object "java/util/List")) (t' := (.array (.object "java/lang/StackTraceElement"))) (by decide) (by decide)))
 have Z64 : n0 ≤ h49.size := W52.size ▸ Z41
 have O65 := O42.wr W52 f4_
 have P66 : Keep h0 h49 [ex] := P43.wr W52 (Or.inl (List.mem_of_getElem? (i := 0) rfl))
 have k7 : o_J p e below T48 m 16 #[vR ex, vR mm] [] B_ := fun t_ hh => k6 t_ (st53 t_ hh)
 clear k6 st53 X45 e46
 have k8 : o_J p e below T48 m 17 #[vR ex, vR mm] [.ref ex] B_ := fun t_ hh => k7 t_ (by
  refine XS.aloadN X50.here hx rfl (hb hby o_h482) rfl rfl ?_
  exact hh)
 clear k7
 obtain ⟨T67, X68, e69, st70⟩ := getS X50 hx hZ hown (host := "") (wT hw 237 rfl) Via.refl e51 (Sta.ext O65.2 sw_) (g := (mkF m 17 #[vR ex, vR mm] [.ref ex])) rfl (hb hby o_h483)
 have k9 : o_J p e below T67 m 20 #[vR ex, vR mm] [wv, .ref ex] B_ := fun t_ hh => k8 t_ (st70 t_ hh)
 clear k8 st70 X50 e51
 obtain ⟨T71, h72, X73, e74, W75, st76⟩ := putF X68 hx hZ hown (host := "") (Or.inl (wT hw 238 rfl)) Via.refl e69 F61 F55 (Or.inl (wT hw 239 rfl)) (wT hw 206 rfl) (ty := .object "java/util/List") (by decide) (narrow_isRef _ hwv) (fits_refV_object _ ⟨wv, hwv⟩) (g := (mkF m 20 #[vR ex, vR mm] [wv, .ref ex])) rfl rfl (hb hby o_h484)
 have N77 := Fr.snoc X73 N54 f4_
 have F78 := Exa.wr W75 F55
 have F79 := Unt.wr W75 F56
 have F80 := Fld.other W75 F57 (Or.inr (slot_ne (Or.inl (wT hw 264 rfl)) (Or.inl (wT hw 239 rfl)) (by decide) (t := (.object "java/lang/Object")) (t' := (.object "java/util/List")) (by decide) (by decide)))
 have F81 := Fld.other W75 F58 (Or.inr (slot_ne (Or.inl (wT hw 263 rfl)) (Or.inl (wT hw 239 rfl)) (by decide) (t := (.object oS)) (t' := (.object "java/util/List")) (by decide) (by decide)))
 have F82 := Fld.other W75 F59 (Or.inr (slot_ne (Or.inl (wT hw 233 rfl)) (Or.inl (wT hw 239 rfl)) (by decide) (t := (.object oT)) (t' := (.object "java/util/List")) (by decide) (by decide)))
 have F83 := Fld.other W75 F60 (Or.inr (slot_ne (Or.inl (wT hw 236 rfl)) (Or.inl (wT hw 239 rfl)) (by decide) (t := (.array (.object "java/lang/StackTraceElement"))) (t' := (.object "java/util/List")) (by decide) (by decide)))
 have F84 : Fld Z h72 ex oT "suppressedExceptions" "Ljava/util/List;" wv := Fld.same W75 F61
 have Z87 : n0 ≤ h72.size := W75.size ▸ Z64
 have O88 := O65.wr W75 f4_
 have P89 : Keep h0 h72 [ex] := P66.wr W75 (Or.inl (List.mem_of_getElem? (i := 0) rfl))
 have k10 : o_J p e below T71 m 23 #[vR ex, vR mm] [] B_ := fun t_ hh => k9 t_ (st76 t_ hh)
 clear k9 st76 X68 e69
 have k11 : o_J p e below T71 m 24 #[vR ex, vR mm] [.ref ex] B_ := fun t_ hh => k10 t_ (by
  refine XS.aloadN X73.here hx rfl (hb hby o_h485) rfl rfl ?_
  exact hh)
 clear k10
 have S6 := o_S6s (o_S6s (o_S6s (o_S6n (Z := Z) (a := ex)) 0 rfl) 1 rfl) 2 rfl
 obtain ⟨T90, L91, X92, hL93, st94⟩ := o_fillS X73 hx hst hZ hw (by rw [hh]; exact ThS.ext f5_.2 ThS.start) hK hown e74 F78 F79 F80 huv F83 (Sta.ext O88.2 su_) (g := (mkF m 24 #[vR ex, vR mm] [.ref ex])) rfl (by rw [hml]; rfl) (rest := []) rfl (hb hby o_h486) (by decide) (by show 2 * 0 + 0 + 42 ≤ _; decide) (by decide) (by decide)
 have S7 := o_S6a hZ S6 hL93
 have Kq := o_kpS X92 hh S7
 have N7 := o_S6f S7 f4_
 obtain ⟨h95, e96⟩ : ∃ z, T90.heap = z := ⟨_, rfl⟩
 rw [e96] at Kq
 have K7 := keep_of_kp Kq
 have E7 := Exa.kp Kq f0_
 obtain ⟨vm_, Fm_⟩ := o_fl E7 (Unt.kp Kq f1_) (wT hw 206 rfl) (Or.inl (wT hw 263 rfl))
 have Z7 : n0 ≤ h95.size := Nat.le_trans Z0 K7.1
 have O7 := o_OldK f5_ K7 f4_
 have k12 : o_J p e below T90 m 27 #[vR ex, vR mm] [.ref ex] B_ := fun t_ hh => k11 t_ (st94 t_ hh)
 clear k11 st94 X73 e74
 have k13 : o_J p e below T90 m 30 #[vR ex, vR mm] [.ref mm, .ref ex] B_ := fun t_ hh => k12 t_ (by
  refine XS.pop X92.here hx rfl (hb hby o_h487) rfl rfl ?_
  refine XS.aloadN X92.here hx rfl (hb hby o_h488) rfl rfl ?_
  refine XS.aloadN X92.here hx rfl (hb hby o_h489) rfl rfl ?_
  exact hh)
 clear k12
 obtain ⟨T97, h98, X99, e100, W101, st102⟩ := putF X92 hx hZ hown (host := "") (Or.inl (wT hw 267 rfl)) Via.refl e96 Fm_ E7 (Or.inl (wT hw 263 rfl)) (wT hw 206 rfl) (ty := .object oS) (by decide) rfl rfl (g := (mkF m 30 #[vR ex, vR mm] [.ref mm, .ref ex])) rfl rfl (hb hby o_h490)
 have N103 := Fr.snoc X99 N7 f4_
 have F106 := Exa.wr W101 E7
 have F107 : Fld Z h98 ex oT "detailMessage" "Ljava/lang/String;" (.ref mm) := Fld.same W101 Fm_
 have Z108 : n0 ≤ h98.size := W101.size ▸ Z7
 have O109 := O7.wr W101 f4_
 have P110 : Keep h0 h98 [ex] := K7.wr W101 (Or.inl (List.mem_of_getElem? (i := 0) rfl))
 have k14 : o_J p e below T97 m 33 #[vR ex, vR mm] [] B_ := fun t_ hh => k13 t_ (st102 t_ hh)
 clear k13 st102 X92 e96
 obtain ⟨fs, hr, hrun, hended, hW, hsame⟩ := X99.leave (v := none) (fun _ => rfl)
 refine ⟨_, _, (o_from hB_ (k14 _ (X99.returnOut hx Bd.returns (hb hby o_h491) hr))), hrun, hended, _, _, rfl, ?_, ⟨_, rfl⟩, hW, hsame.mono (o_l rfl) (o_l rfl)⟩
 show Q_rmTi Z ex mm h0 n0 _ T97.heap _
 rw [e100]
 have Kp111 := o_kpS X99 hh (o_S6s S7 5 rfl)
 rw [e100] at Kp111
 have Kp112 := o_kpS X99 hh (o_S6s S7 5 rfl)
 rw [e100] at Kp112
 have Kp113 := o_kpS X99 hh (o_S6s S7 5 rfl)
 rw [e100] at Kp113
 exact ⟨rfl, N103, P110, F106, Kp112, F107, trivial⟩
def Q_rmXi (Z : State) (ex : Addr) (mm : Addr) (h0 : Heap) (n0 : Nat) (v : Option Value) (h : Heap) (L : List Loc) : Prop := v = none ∧ Fr n0 L ∧ Keep h0 h [ex] ∧ Exa Z h ex oV ∧ Kp Z h0 h ex ∧ Fld Z h ex oT "detailMessage" "Ljava/lang/String;" (.ref mm) ∧ True
theorem o_h492 : plainName "java/lang/Exception" = true := by first | (simp [plainName, overriddenIn]; done) | decide +kernel
theorem o_h493 : decode jdk_59_method_2_code 0 = .ok (.aload_n 0, 1) := by decide +kernel
theorem o_h494 : decode jdk_59_method_2_code 1 = .ok (.aload_n 1, 1) := by decide +kernel
theorem o_h495 : decode jdk_59_method_2_code 2 = .ok (.invokespecial 7, 3) := by decide +kernel
theorem o_h496 : decode jdk_59_method_2_code 5 = .ok (.return_, 1) := by decide +kernel
theorem rmXi (l : Launch) (Z : State) (a0 : Array Value) (hw : ∀ d ∈ tables_1, d.before a0 Z = true) (ws : List Jvm.Cond) (ex : Addr) (mm : Addr) (h0 : Heap) (n0 : Nat) (Z0 : n0 ≤ h0.size) (f0_ : Exa Z h0 ex oV) (f1_ : Unt h0 ex) (f2_ : Fld Z h0 ex oT "backtrace" "Ljava/lang/Object;" .null) (f3_ : Fld Z h0 ex oT "detailMessage" "Ljava/lang/String;" .null) (f4_ : n0 ≤ ex) (f5_ : Old Z n0 h0) (hst : l.stackTraces = true) (hr2 : ∀ d ∈ twoRefs, d.before a0 Z = true)  :
    MetFree l (⟨"java/lang/Exception", "<init>", "(Ljava/lang/String;)V"⟩ : MethodName) (head1 (Jvm.Cond.code (⟨"java/lang/Exception", "<init>", "(Ljava/lang/String;)V"⟩ : MethodName) jdk_59_method_2_code 2 none :: ws) (rO 4 1 2752 55)) (fun ar_ U => ar_ = #[.ref ex, .ref mm] ∧ Z.Warmed39 U.vm ∧ U.heap = h0) (fun _ _ bl s _ => s.vm.MethodsKnown ∧ s.vm.FramesKnown bl) (fun _ U o U' => ∃ v L, o = .returned v ∧ Q_rmXi Z ex mm h0 n0 v U'.heap L ∧ FrameEnd U o U' L (rO 4 1 2752 55).cells (rO 4 1 2752 55).slots) := by
 refine MetFree.of_bodySF (plainFor_of_name o_h492) hisR ?_
 intro p e s m args below meth c s₁ Bd hml0 hP hK
 obtain ⟨rfl, hZ, hh⟩ := hP
 have hx := Bd.exec
 have hby := Bd.bytes
 have hml : c.maxLocals = 2 := hml0
 have hown : s.vm.findClass "java/lang/Exception" = some m.cls := findClass_of_methodNamed Bd.named
 have hnm := (name_of_methodNamed Bd.named Bd.method).1
 have hTK := Vm.MethodsKnown.alikeC hZ.alike.symm hK.1
 have hBl := Vm.FramesKnown.alikeC hZ.alike.symm hK.2
 have X0 : Stand p l e (rO 4 1 2752 55) s m #[.ref ex, .ref mm] below meth c s₁ [] 0 0 := Stand.of_body Bd
 have e0 : s₁.heap = h0 := by rw [← hh, Bd.state]; rfl
 have N0 := Fr.nil n0
 obtain ⟨B_, hB_⟩ : ∃ z, z = s₁.setTop (entryFrame m #[.ref ex, .ref mm] 2) := ⟨_, rfl⟩
 have k0 : o_K p e below (s₁.setTop (mkF m 0 #[.val (.ref ex), .val (.ref mm)] [])) B_ := by rw [hB_]; exact fun t k => castTop (by clear k; first | (simp [entryFrame, mkF, argsToLocals, Value.category, maxLocals]; done) | rfl) k
 have K0 : Keep h0 h0 [ex] := Keep.refl _ _
 have k1 : o_J p e below s₁ m 2 #[vR ex, vR mm] [.ref mm, .ref ex] B_ := fun t_ hh => k0 t_ (by
  refine XS.aloadN X0.here hx rfl (hb hby o_h493) rfl rfl ?_
  refine XS.aloadN X0.here hx rfl (hb hby o_h494) rfl rfl ?_
  exact hh)
 obtain ⟨_, _, ⟨T21, L22, k_23, n_24⟩, -, X25, ⟨Lc26, hQ27, l_28, y_29, z_30⟩, st31⟩ := X0.specialBack hx (y := ⟨oT, "<init>", "(Ljava/lang/String;)V"⟩) rfl hown (mvT hZ (wT hw 225 rfl)) (mvT hZ (wT hw 226 rfl)) (mvT hZ (wT hw 230 rfl)) (by decide) (backOfKL (W := 0) (rmTi l Z a0 hw [] ex mm h0 n0 Z0 f0_ f1_ f2_ f3_ f4_ f5_ hst hr2 ) hZ (wT hw 230 rfl) (wT hw 229 rfl) (by decide) (by decide) (Vm.MethodsKnown.alikeC hZ.alike hTK) (Vm.FramesKnown.alikeC hZ.alike hBl)) (g := (mkF m 2 #[vR ex, vR mm] [.ref mm, .ref ex])) rfl (by rw [hml]; rfl) (Steps.refl _) (a := ex) (argsL := [.ref mm]) (rest := []) (lenOf o_h153 rfl) rfl (o_w0 rfl) (hb hby o_h495) (fun _ _ => ⟨rfl, e0, o_l rfl, o_l rfl⟩)
 dsimp only [Pt.U, Pt.locs, Pt.cells, Pt.slots] at X25 l_28 y_29 z_30 st31 hQ27
 subst l_28 y_29 z_30
 obtain ⟨rfl, N32, K36, F33, F34, F35, -⟩ := hQ27
 have N37 := Fr.app N0 N32
 have F38 := f0_.keep K36
 have Z40 : n0 ≤ T21.heap.size := Nat.le_trans Z0 K36.1
 have O41 := f5_.keep K36 (allS f4_ all0)
 have P42 : Keep h0 T21.heap [ex] := K0.trans K36 (allS (P := fun x => x ∈ [ex] ∨ h0.size ≤ x) (Or.inl (List.mem_of_getElem? (i := 0) rfl)) all0)
 have e43 : T21.heap = T21.heap := rfl
 have k2 : o_J p e below T21 m 5 #[vR ex, vR mm] [] B_ := fun t_ hh => k1 t_ (st31.trans hh)
 clear k1 st31
 obtain ⟨fs, hr, hrun, hended, hW, hsame⟩ := X25.leave (v := none) (fun _ => rfl)
 refine ⟨_, _, (o_from hB_ (k2 _ (X25.returnOut hx Bd.returns (hb hby o_h496) hr))), hrun, hended, _, _, rfl, ?_, ⟨_, rfl⟩, hW, hsame.mono (o_l rfl) (o_l rfl)⟩
 show Q_rmXi Z ex mm h0 n0 _ T21.heap _
 rw [e43]
 exact ⟨rfl, N37, P42, F33, F34, F35, trivial⟩
def Q_rmRi (Z : State) (ex : Addr) (mm : Addr) (h0 : Heap) (n0 : Nat) (v : Option Value) (h : Heap) (L : List Loc) : Prop := v = none ∧ Fr n0 L ∧ Keep h0 h [ex] ∧ Exa Z h ex oV ∧ Kp Z h0 h ex ∧ Fld Z h ex oT "detailMessage" "Ljava/lang/String;" (.ref mm) ∧ True
theorem o_h497 : plainName "java/lang/RuntimeException" = true := by first | (simp [plainName, overriddenIn]; done) | decide +kernel
theorem o_h498 : decode jdk_58_method_2_code 0 = .ok (.aload_n 0, 1) := by decide +kernel
theorem o_h499 : decode jdk_58_method_2_code 1 = .ok (.aload_n 1, 1) := by decide +kernel
theorem o_h500 : decode jdk_58_method_2_code 2 = .ok (.invokespecial 7, 3) := by decide +kernel
theorem o_h501 : decode jdk_58_method_2_code 5 = .ok (.return_, 1) := by decide +kernel
theorem rmRi (l : Launch) (Z : State) (a0 : Array Value) (hw : ∀ d ∈ tables_1, d.before a0 Z = true) (ws : List Jvm.Cond) (ex : Addr) (mm : Addr) (h0 : Heap) (n0 : Nat) (Z0 : n0 ≤ h0.size) (f0_ : Exa Z h0 ex oV) (f1_ : Unt h0 ex) (f2_ : Fld Z h0 ex oT "backtrace" "Ljava/lang/Object;" .null) (f3_ : Fld Z h0 ex oT "detailMessage" "Ljava/lang/String;" .null) (f4_ : n0 ≤ ex) (f5_ : Old Z n0 h0) (hst : l.stackTraces = true) (hr2 : ∀ d ∈ twoRefs, d.before a0 Z = true)  :
    MetFree l (⟨"java/lang/RuntimeException", "<init>", "(Ljava/lang/String;)V"⟩ : MethodName) (head1 (Jvm.Cond.code (⟨"java/lang/RuntimeException", "<init>", "(Ljava/lang/String;)V"⟩ : MethodName) jdk_58_method_2_code 2 none :: ws) (rO 5 1 2752 68)) (fun ar_ U => ar_ = #[.ref ex, .ref mm] ∧ Z.Warmed39 U.vm ∧ U.heap = h0) (fun _ _ bl s _ => s.vm.MethodsKnown ∧ s.vm.FramesKnown bl) (fun _ U o U' => ∃ v L, o = .returned v ∧ Q_rmRi Z ex mm h0 n0 v U'.heap L ∧ FrameEnd U o U' L (rO 5 1 2752 68).cells (rO 5 1 2752 68).slots) := by
 refine MetFree.of_bodySF (plainFor_of_name o_h497) hisR ?_
 intro p e s m args below meth c s₁ Bd hml0 hP hK
 obtain ⟨rfl, hZ, hh⟩ := hP
 have hx := Bd.exec
 have hby := Bd.bytes
 have hml : c.maxLocals = 2 := hml0
 have hown : s.vm.findClass "java/lang/RuntimeException" = some m.cls := findClass_of_methodNamed Bd.named
 have hnm := (name_of_methodNamed Bd.named Bd.method).1
 have hTK := Vm.MethodsKnown.alikeC hZ.alike.symm hK.1
 have hBl := Vm.FramesKnown.alikeC hZ.alike.symm hK.2
 have X0 : Stand p l e (rO 5 1 2752 68) s m #[.ref ex, .ref mm] below meth c s₁ [] 0 0 := Stand.of_body Bd
 have e0 : s₁.heap = h0 := by rw [← hh, Bd.state]; rfl
 have N0 := Fr.nil n0
 obtain ⟨B_, hB_⟩ : ∃ z, z = s₁.setTop (entryFrame m #[.ref ex, .ref mm] 2) := ⟨_, rfl⟩
 have k0 : o_K p e below (s₁.setTop (mkF m 0 #[.val (.ref ex), .val (.ref mm)] [])) B_ := by rw [hB_]; exact fun t k => castTop (by clear k; first | (simp [entryFrame, mkF, argsToLocals, Value.category, maxLocals]; done) | rfl) k
 have K0 : Keep h0 h0 [ex] := Keep.refl _ _
 have k1 : o_J p e below s₁ m 2 #[vR ex, vR mm] [.ref mm, .ref ex] B_ := fun t_ hh => k0 t_ (by
  refine XS.aloadN X0.here hx rfl (hb hby o_h498) rfl rfl ?_
  refine XS.aloadN X0.here hx rfl (hb hby o_h499) rfl rfl ?_
  exact hh)
 obtain ⟨_, _, ⟨T21, L22, k_23, n_24⟩, -, X25, ⟨Lc26, hQ27, l_28, y_29, z_30⟩, st31⟩ := X0.specialBack hx (y := ⟨"java/lang/Exception", "<init>", "(Ljava/lang/String;)V"⟩) rfl hown (mvT hZ (wT hw 219 rfl)) (mvT hZ (wT hw 220 rfl)) (mvT hZ (wT hw 224 rfl)) (by decide) (backOfKL (W := 0) (rmXi l Z a0 hw [] ex mm h0 n0 Z0 f0_ f1_ f2_ f3_ f4_ f5_ hst hr2 ) hZ (wT hw 224 rfl) (wT hw 223 rfl) (by decide) (by decide) (Vm.MethodsKnown.alikeC hZ.alike hTK) (Vm.FramesKnown.alikeC hZ.alike hBl)) (g := (mkF m 2 #[vR ex, vR mm] [.ref mm, .ref ex])) rfl (by rw [hml]; rfl) (Steps.refl _) (a := ex) (argsL := [.ref mm]) (rest := []) (lenOf o_h153 rfl) rfl (o_w0 rfl) (hb hby o_h500) (fun _ _ => ⟨rfl, e0, o_l rfl, o_l rfl⟩)
 dsimp only [Pt.U, Pt.locs, Pt.cells, Pt.slots] at X25 l_28 y_29 z_30 st31 hQ27
 subst l_28 y_29 z_30
 obtain ⟨rfl, N32, K36, F33, F34, F35, -⟩ := hQ27
 have N37 := Fr.app N0 N32
 have F38 := f0_.keep K36
 have Z40 : n0 ≤ T21.heap.size := Nat.le_trans Z0 K36.1
 have O41 := f5_.keep K36 (allS f4_ all0)
 have P42 : Keep h0 T21.heap [ex] := K0.trans K36 (allS (P := fun x => x ∈ [ex] ∨ h0.size ≤ x) (Or.inl (List.mem_of_getElem? (i := 0) rfl)) all0)
 have e43 : T21.heap = T21.heap := rfl
 have k2 : o_J p e below T21 m 5 #[vR ex, vR mm] [] B_ := fun t_ hh => k1 t_ (st31.trans hh)
 clear k1 st31
 obtain ⟨fs, hr, hrun, hended, hW, hsame⟩ := X25.leave (v := none) (fun _ => rfl)
 refine ⟨_, _, (o_from hB_ (k2 _ (X25.returnOut hx Bd.returns (hb hby o_h501) hr))), hrun, hended, _, _, rfl, ?_, ⟨_, rfl⟩, hW, hsame.mono (o_l rfl) (o_l rfl)⟩
 show Q_rmRi Z ex mm h0 n0 _ T21.heap _
 rw [e43]
 exact ⟨rfl, N37, P42, F33, F34, F35, trivial⟩
def Q_rmQi (Z : State) (ex : Addr) (mm : Addr) (h0 : Heap) (n0 : Nat) (v : Option Value) (h : Heap) (L : List Loc) : Prop := v = none ∧ Fr n0 L ∧ Keep h0 h [ex] ∧ Exa Z h ex oV ∧ Kp Z h0 h ex ∧ Fld Z h ex oT "detailMessage" "Ljava/lang/String;" (.ref mm) ∧ True
theorem o_h502 : decode prog_7_method_1_code 0 = .ok (.aload_n 0, 1) := by decide +kernel
theorem o_h503 : decode prog_7_method_1_code 1 = .ok (.aload_n 1, 1) := by decide +kernel
theorem o_h504 : decode prog_7_method_1_code 2 = .ok (.invokespecial 1, 3) := by decide +kernel
theorem o_h505 : decode prog_7_method_1_code 5 = .ok (.return_, 1) := by decide +kernel
theorem rmQi (l : Launch) (Z : State) (a0 : Array Value) (hw : ∀ d ∈ tables_1, d.before a0 Z = true) (ws : List Jvm.Cond) (ex : Addr) (mm : Addr) (h0 : Heap) (n0 : Nat) (Z0 : n0 ≤ h0.size) (f0_ : Exa Z h0 ex oV) (f1_ : Unt h0 ex) (f2_ : Fld Z h0 ex oT "backtrace" "Ljava/lang/Object;" .null) (f3_ : Fld Z h0 ex oT "detailMessage" "Ljava/lang/String;" .null) (f4_ : n0 ≤ ex) (f5_ : Old Z n0 h0) (hst : l.stackTraces = true) (hr2 : ∀ d ∈ twoRefs, d.before a0 Z = true)  :
    MetFree l (⟨oL, "<init>", "(Ljava/lang/String;)V"⟩ : MethodName) (head1 (Jvm.Cond.code (⟨oL, "<init>", "(Ljava/lang/String;)V"⟩ : MethodName) prog_7_method_1_code 2 none :: ws) (rO 6 1 2752 81)) (fun ar_ U => ar_ = #[.ref ex, .ref mm] ∧ Z.Warmed39 U.vm ∧ U.heap = h0) (fun _ _ bl s _ => s.vm.MethodsKnown ∧ s.vm.FramesKnown bl) (fun _ U o U' => ∃ v L, o = .returned v ∧ Q_rmQi Z ex mm h0 n0 v U'.heap L ∧ FrameEnd U o U' L (rO 6 1 2752 81).cells (rO 6 1 2752 81).slots) := by
 refine MetFree.of_bodySF (plainFor_of_name o_h394) hisR ?_
 intro p e s m args below meth c s₁ Bd hml0 hP hK
 obtain ⟨rfl, hZ, hh⟩ := hP
 have hx := Bd.exec
 have hby := Bd.bytes
 have hml : c.maxLocals = 2 := hml0
 have hown : s.vm.findClass oL = some m.cls := findClass_of_methodNamed Bd.named
 have hnm := (name_of_methodNamed Bd.named Bd.method).1
 have hTK := Vm.MethodsKnown.alikeC hZ.alike.symm hK.1
 have hBl := Vm.FramesKnown.alikeC hZ.alike.symm hK.2
 have X0 : Stand p l e (rO 6 1 2752 81) s m #[.ref ex, .ref mm] below meth c s₁ [] 0 0 := Stand.of_body Bd
 have e0 : s₁.heap = h0 := by rw [← hh, Bd.state]; rfl
 have N0 := Fr.nil n0
 obtain ⟨B_, hB_⟩ : ∃ z, z = s₁.setTop (entryFrame m #[.ref ex, .ref mm] 2) := ⟨_, rfl⟩
 have k0 : o_K p e below (s₁.setTop (mkF m 0 #[.val (.ref ex), .val (.ref mm)] [])) B_ := by rw [hB_]; exact fun t k => castTop (by clear k; first | (simp [entryFrame, mkF, argsToLocals, Value.category, maxLocals]; done) | rfl) k
 have K0 : Keep h0 h0 [ex] := Keep.refl _ _
 have k1 : o_J p e below s₁ m 2 #[vR ex, vR mm] [.ref mm, .ref ex] B_ := fun t_ hh => k0 t_ (by
  refine XS.aloadN X0.here hx rfl (hb hby o_h502) rfl rfl ?_
  refine XS.aloadN X0.here hx rfl (hb hby o_h503) rfl rfl ?_
  exact hh)
 obtain ⟨_, _, ⟨T21, L22, k_23, n_24⟩, -, X25, ⟨Lc26, hQ27, l_28, y_29, z_30⟩, st31⟩ := X0.specialBack hx (y := ⟨"java/lang/RuntimeException", "<init>", "(Ljava/lang/String;)V"⟩) rfl hown (mvT hZ (wT hw 214 rfl)) (mvT hZ (wT hw 215 rfl)) (mvT hZ (wT hw 218 rfl)) (by decide) (backOfKL (W := 0) (rmRi l Z a0 hw [] ex mm h0 n0 Z0 f0_ f1_ f2_ f3_ f4_ f5_ hst hr2 ) hZ (wT hw 218 rfl) (wT hw 217 rfl) (by decide) (by decide) (Vm.MethodsKnown.alikeC hZ.alike hTK) (Vm.FramesKnown.alikeC hZ.alike hBl)) (g := (mkF m 2 #[vR ex, vR mm] [.ref mm, .ref ex])) rfl (by rw [hml]; rfl) (Steps.refl _) (a := ex) (argsL := [.ref mm]) (rest := []) (lenOf o_h153 rfl) rfl (o_w0 rfl) (hb hby o_h504) (fun _ _ => ⟨rfl, e0, o_l rfl, o_l rfl⟩)
 dsimp only [Pt.U, Pt.locs, Pt.cells, Pt.slots] at X25 l_28 y_29 z_30 st31 hQ27
 subst l_28 y_29 z_30
 obtain ⟨rfl, N32, K36, F33, F34, F35, -⟩ := hQ27
 have N37 := Fr.app N0 N32
 have F38 := f0_.keep K36
 have Z40 : n0 ≤ T21.heap.size := Nat.le_trans Z0 K36.1
 have O41 := f5_.keep K36 (allS f4_ all0)
 have P42 : Keep h0 T21.heap [ex] := K0.trans K36 (allS (P := fun x => x ∈ [ex] ∨ h0.size ≤ x) (Or.inl (List.mem_of_getElem? (i := 0) rfl)) all0)
 have e43 : T21.heap = T21.heap := rfl
 have k2 : o_J p e below T21 m 5 #[vR ex, vR mm] [] B_ := fun t_ hh => k1 t_ (st31.trans hh)
 clear k1 st31
 obtain ⟨fs, hr, hrun, hended, hW, hsame⟩ := X25.leave (v := none) (fun _ => rfl)
 refine ⟨_, _, (o_from hB_ (k2 _ (X25.returnOut hx Bd.returns (hb hby o_h505) hr))), hrun, hended, _, _, rfl, ?_, ⟨_, rfl⟩, hW, hsame.mono (o_l rfl) (o_l rfl)⟩
 show Q_rmQi Z ex mm h0 n0 _ T21.heap _
 rw [e43]
 exact ⟨rfl, N37, P42, F33, F34, F35, trivial⟩
def Q_rmVi (Z : State) (ex : Addr) (mm : Addr) (a1 : Addr) (a2 : Addr) (vv : Int64) (h0 : Heap) (n0 : Nat) (v : Option Value) (h : Heap) (L : List Loc) : Prop := v = none ∧ Fr n0 L ∧ Keep h0 h [ex] ∧ Exa Z h ex oV ∧ Fld Z h ex oT "detailMessage" "Ljava/lang/String;" (.ref mm) ∧ Fld Z h ex oV "type" "Ljava/lang/String;" (.ref a1) ∧ Fld Z h ex oV "id" "Ljava/lang/String;" (.ref a2) ∧ Fld Z h ex oV "expectedVersion" "J" (.long vv) ∧ Fld Z h ex oV "currentVersion" "Ljava/lang/Long;" .null ∧ Fld Z h ex oV "changedBy" "Ljava/lang/String;" .null ∧ Fld Z h ex oV "changedAt" "Ljava/time/Instant;" .null ∧ Fld Z h ex oV "deleted" "Z" (.int (0 : Int32)) ∧ True
theorem o_h506 : decode prog_14_method_1_code 0 = .ok (.aload_n 0, 1) := by decide +kernel
theorem o_h507 : decode prog_14_method_1_code 1 = .ok (.aload_n 1, 1) := by decide +kernel
theorem o_h508 : decode prog_14_method_1_code 2 = .ok (.invokespecial 1, 3) := by decide +kernel
theorem o_h509 : decode prog_14_method_1_code 5 = .ok (.aload_n 0, 1) := by decide +kernel
theorem o_h510 : decode prog_14_method_1_code 6 = .ok (.aload_n 2, 1) := by decide +kernel
theorem o_h511 : decode prog_14_method_1_code 7 = .ok (.putfield 7, 3) := by decide +kernel
theorem o_h512 : decode prog_14_method_1_code 10 = .ok (.aload_n 0, 1) := by decide +kernel
theorem o_h513 : decode prog_14_method_1_code 11 = .ok (.aload_n 3, 1) := by decide +kernel
theorem o_h514 : decode prog_14_method_1_code 12 = .ok (.putfield 13, 3) := by decide +kernel
theorem o_h515 : decode prog_14_method_1_code 15 = .ok (.aload_n 0, 1) := by decide +kernel
theorem o_h516 : decode prog_14_method_1_code 16 = .ok (.lload 4, 2) := by decide +kernel
theorem o_h517 : decode prog_14_method_1_code 18 = .ok (.putfield 16, 3) := by decide +kernel
theorem o_h518 : decode prog_14_method_1_code 21 = .ok (.aload_n 0, 1) := by decide +kernel
theorem o_h519 : decode prog_14_method_1_code 22 = .ok (.aload 6, 2) := by decide +kernel
theorem o_h520 : decode prog_14_method_1_code 24 = .ok (.putfield 20, 3) := by decide +kernel
theorem o_h521 : decode prog_14_method_1_code 27 = .ok (.aload_n 0, 1) := by decide +kernel
theorem o_h522 : decode prog_14_method_1_code 28 = .ok (.aload 7, 2) := by decide +kernel
theorem o_h523 : decode prog_14_method_1_code 30 = .ok (.putfield 24, 3) := by decide +kernel
theorem o_h524 : decode prog_14_method_1_code 33 = .ok (.aload_n 0, 1) := by decide +kernel
theorem o_h525 : decode prog_14_method_1_code 34 = .ok (.aload 8, 2) := by decide +kernel
theorem o_h526 : decode prog_14_method_1_code 36 = .ok (.putfield 27, 3) := by decide +kernel
theorem o_h527 : decode prog_14_method_1_code 39 = .ok (.aload_n 0, 1) := by decide +kernel
theorem o_h528 : decode prog_14_method_1_code 40 = .ok (.iload 9, 2) := by decide +kernel
theorem o_h529 : decode prog_14_method_1_code 42 = .ok (.putfield 31, 3) := by decide +kernel
theorem o_h530 : decode prog_14_method_1_code 45 = .ok (.return_, 1) := by decide +kernel
theorem rmVi (l : Launch) (Z : State) (a0 : Array Value) (hw : ∀ d ∈ tables_1, d.before a0 Z = true) (ws : List Jvm.Cond) (ex : Addr) (mm : Addr) (a1 : Addr) (a2 : Addr) (vv : Int64) (h0 : Heap) (n0 : Nat) (Z0 : n0 ≤ h0.size) (f0_ : Exa Z h0 ex oV) (f1_ : Unt h0 ex) (f2_ : Fld Z h0 ex oT "backtrace" "Ljava/lang/Object;" .null) (f3_ : Fld Z h0 ex oT "detailMessage" "Ljava/lang/String;" .null) (f4_ : Fld Z h0 ex oV "type" "Ljava/lang/String;" .null) (f5_ : Fld Z h0 ex oV "id" "Ljava/lang/String;" .null) (f6_ : Fld Z h0 ex oV "expectedVersion" "J" (.long (0 : Int64))) (f7_ : Fld Z h0 ex oV "currentVersion" "Ljava/lang/Long;" .null) (f8_ : Fld Z h0 ex oV "changedBy" "Ljava/lang/String;" .null) (f9_ : Fld Z h0 ex oV "changedAt" "Ljava/time/Instant;" .null) (f10_ : Fld Z h0 ex oV "deleted" "Z" (.int (0 : Int32))) (f11_ : n0 ≤ ex) (f12_ : Old Z n0 h0) (hst : l.stackTraces = true) (hr2 : ∀ d ∈ twoRefs, d.before a0 Z = true)  :
    MetFree l (⟨oV, "<init>", "(Ljava/lang/String;Ljava/lang/String;Ljava/lang/String;JLjava/lang/Long;Ljava/lang/String;Ljava/time/Instant;Z)V"⟩ : MethodName) (head1 (Jvm.Cond.code (⟨oV, "<init>", "(Ljava/lang/String;Ljava/lang/String;Ljava/lang/String;JLjava/lang/Long;Ljava/lang/String;Ljava/time/Instant;Z)V"⟩ : MethodName) prog_14_method_1_code 10 none :: ws) (rO 7 1 2752 94)) (fun ar_ U => ar_ = #[.ref ex, .ref mm, .ref a1, .ref a2, .long vv, .null, .null, .null, (.int 0)] ∧ Z.Warmed39 U.vm ∧ U.heap = h0) (fun _ _ bl s _ => s.vm.MethodsKnown ∧ s.vm.FramesKnown bl) (fun _ U o U' => ∃ v L, o = .returned v ∧ Q_rmVi Z ex mm a1 a2 vv h0 n0 v U'.heap L ∧ FrameEnd U o U' L (rO 7 1 2752 94).cells (rO 7 1 2752 94).slots) := by
 refine MetFree.of_bodySF (plainFor_of_name o_h456) hisR ?_
 intro p e s m args below meth c s₁ Bd hml0 hP hK
 obtain ⟨rfl, hZ, hh⟩ := hP
 have hx := Bd.exec
 have hby := Bd.bytes
 have hml : c.maxLocals = 10 := hml0
 have hown : s.vm.findClass oV = some m.cls := findClass_of_methodNamed Bd.named
 have hnm := (name_of_methodNamed Bd.named Bd.method).1
 have hTK := Vm.MethodsKnown.alikeC hZ.alike.symm hK.1
 have hBl := Vm.FramesKnown.alikeC hZ.alike.symm hK.2
 have X0 : Stand p l e (rO 7 1 2752 94) s m #[.ref ex, .ref mm, .ref a1, .ref a2, .long vv, .null, .null, .null, (.int 0)] below meth c s₁ [] 0 0 := Stand.of_body Bd
 have e0 : s₁.heap = h0 := by rw [← hh, Bd.state]; rfl
 have N0 := Fr.nil n0
 obtain ⟨B_, hB_⟩ : ∃ z, z = s₁.setTop (entryFrame m #[.ref ex, .ref mm, .ref a1, .ref a2, .long vv, .null, .null, .null, (.int 0)] 10) := ⟨_, rfl⟩
 have k0 : o_K p e below (s₁.setTop (mkF m 0 #[.val (.ref ex), .val (.ref mm), .val (.ref a1), .val (.ref a2), .val (.long vv), .second, .val .null, .val .null, .val .null, .val (.int 0)] [])) B_ := by rw [hB_]; exact fun t k => castTop (by clear k; first | (simp [entryFrame, mkF, argsToLocals, Value.category, maxLocals]; done) | rfl) k
 have K0 : Keep h0 h0 [ex] := Keep.refl _ _
 have k1 : o_J p e below s₁ m 2 #[vR ex, vR mm, vR a1, vR a2, vL vv, .second, .val .null, .val .null, .val .null, vI (0 : Int32)] [.ref mm, .ref ex] B_ := fun t_ hh => k0 t_ (by
  refine XS.aloadN X0.here hx rfl (hb hby o_h506) rfl rfl ?_
  refine XS.aloadN X0.here hx rfl (hb hby o_h507) rfl rfl ?_
  exact hh)
 obtain ⟨_, _, ⟨T21, L22, k_23, n_24⟩, -, X25, ⟨Lc26, hQ27, l_28, y_29, z_30⟩, st31⟩ := X0.specialBack hx (y := ⟨oL, "<init>", "(Ljava/lang/String;)V"⟩) rfl hown (mvT hZ (wT hw 210 rfl)) (mvT hZ (wT hw 211 rfl)) (mvT hZ (wT hw 213 rfl)) (by decide) (backOfKL (W := 0) (rmQi l Z a0 hw [] ex mm h0 n0 Z0 f0_ f1_ f2_ f3_ f11_ f12_ hst hr2 ) hZ (wT hw 213 rfl) (wT hw 33 rfl) (by decide) (by decide) (Vm.MethodsKnown.alikeC hZ.alike hTK) (Vm.FramesKnown.alikeC hZ.alike hBl)) (g := (mkF m 2 #[vR ex, vR mm, vR a1, vR a2, vL vv, .second, .val .null, .val .null, .val .null, vI (0 : Int32)] [.ref mm, .ref ex])) rfl (by rw [hml]; rfl) (Steps.refl _) (a := ex) (argsL := [.ref mm]) (rest := []) (lenOf o_h153 rfl) rfl (o_w0 rfl) (hb hby o_h508) (fun _ _ => ⟨rfl, e0, o_l rfl, o_l rfl⟩)
 dsimp only [Pt.U, Pt.locs, Pt.cells, Pt.slots] at X25 l_28 y_29 z_30 st31 hQ27
 subst l_28 y_29 z_30
 obtain ⟨rfl, N32, K36, F33, F34, F35, -⟩ := hQ27
 have N37 := Fr.app N0 N32
 have F38 := f0_.keep K36
 have Z40 : n0 ≤ T21.heap.size := Nat.le_trans Z0 K36.1
 have O41 := f12_.keep K36 (allS f11_ all0)
 have P42 : Keep h0 T21.heap [ex] := K0.trans K36 (allS (P := fun x => x ∈ [ex] ∨ h0.size ≤ x) (Or.inl (List.mem_of_getElem? (i := 0) rfl)) all0)
 have e43 : T21.heap = T21.heap := rfl
 have k2 : o_J p e below T21 m 5 #[vR ex, vR mm, vR a1, vR a2, vL vv, .second, .val .null, .val .null, .val .null, vI (0 : Int32)] [] B_ := fun t_ hh => k1 t_ (st31.trans hh)
 clear k1 st31
 have F44 := Fld.kp F34 f4_ (Or.inr (o_six_type hw))
 have F45 := Fld.kp F34 f5_ (Or.inr (o_six_id hw))
 have F46 := Fld.kp F34 f6_ (Or.inr (o_six_expectedVersion hw))
 have F47 := Fld.kp F34 f7_ (Or.inr (o_six_currentVersion hw))
 have F48 := Fld.kp F34 f8_ (Or.inr (o_six_changedBy hw))
 have F49 := Fld.kp F34 f9_ (Or.inr (o_six_changedAt hw))
 have F50 := Fld.kp F34 f10_ (Or.inr (o_six_deleted hw))
 have k3 : o_J p e below T21 m 7 #[vR ex, vR mm, vR a1, vR a2, vL vv, .second, .val .null, .val .null, .val .null, vI (0 : Int32)] [.ref a1, .ref ex] B_ := fun t_ hh => k2 t_ (by
  refine XS.aloadN X25.here hx rfl (hb hby o_h509) rfl rfl ?_
  refine XS.aloadN X25.here hx rfl (hb hby o_h510) rfl rfl ?_
  exact hh)
 clear k2
 obtain ⟨T51, h52, X53, e54, W55, st56⟩ := putF X25 hx hZ hown (host := "") (Or.inl (wT hw 268 rfl)) Via.refl e43 F44 F33 (Or.inr ⟨(wT hw 269 rfl), rfl, hnm⟩) (wT hw 206 rfl) (ty := .object oS) (by decide) rfl rfl (g := (mkF m 7 #[vR ex, vR mm, vR a1, vR a2, vL vv, .second, .val .null, .val .null, .val .null, vI (0 : Int32)] [.ref a1, .ref ex])) rfl rfl (hb hby o_h511)
 have N57 := Fr.snoc X53 N37 f11_
 have F58 := Exa.wr W55 F33
 have F59 := Fld.other W55 F35 (Or.inr (slot_ne (Or.inl (wT hw 263 rfl)) (Or.inr (wT hw 269 rfl)) (by decide) (t := (.object oS)) (t' := (.object oS)) (by decide) (by decide)))
 have F60 : Fld Z h52 ex oV "type" "Ljava/lang/String;" (.ref a1) := Fld.same W55 F44
 have F61 := Fld.other W55 F45 (Or.inr (slot_ne (Or.inr (wT hw 271 rfl)) (Or.inr (wT hw 269 rfl)) (by decide) (t := (.object oS)) (t' := (.object oS)) (by decide) (by decide)))
 have F62 := Fld.other W55 F46 (Or.inr (slot_ne (Or.inr (wT hw 273 rfl)) (Or.inr (wT hw 269 rfl)) (by decide) (t := .long) (t' := (.object oS)) (by decide) (by decide)))
 have F63 := Fld.other W55 F47 (Or.inr (slot_ne (Or.inr (wT hw 275 rfl)) (Or.inr (wT hw 269 rfl)) (by decide) (t := (.object "java/lang/Long")) (t' := (.object oS)) (by decide) (by decide)))
 have F64 := Fld.other W55 F48 (Or.inr (slot_ne (Or.inr (wT hw 277 rfl)) (Or.inr (wT hw 269 rfl)) (by decide) (t := (.object oS)) (t' := (.object oS)) (by decide) (by decide)))
 have F65 := Fld.other W55 F49 (Or.inr (slot_ne (Or.inr (wT hw 279 rfl)) (Or.inr (wT hw 269 rfl)) (by decide) (t := (.object "java/time/Instant")) (t' := (.object oS)) (by decide) (by decide)))
 have F66 := Fld.other W55 F50 (Or.inr (slot_ne (Or.inr (wT hw 281 rfl)) (Or.inr (wT hw 269 rfl)) (by decide) (t := .boolean) (t' := (.object oS)) (by decide) (by decide)))
 have Z67 : n0 ≤ h52.size := W55.size ▸ Z40
 have O68 := O41.wr W55 f11_
 have P69 : Keep h0 h52 [ex] := P42.wr W55 (Or.inl (List.mem_of_getElem? (i := 0) rfl))
 have k4 : o_J p e below T51 m 10 #[vR ex, vR mm, vR a1, vR a2, vL vv, .second, .val .null, .val .null, .val .null, vI (0 : Int32)] [] B_ := fun t_ hh => k3 t_ (st56 t_ hh)
 clear k3 st56 X25 e43
 have k5 : o_J p e below T51 m 12 #[vR ex, vR mm, vR a1, vR a2, vL vv, .second, .val .null, .val .null, .val .null, vI (0 : Int32)] [.ref a2, .ref ex] B_ := fun t_ hh => k4 t_ (by
  refine XS.aloadN X53.here hx rfl (hb hby o_h512) rfl rfl ?_
  refine XS.aloadN X53.here hx rfl (hb hby o_h513) rfl rfl ?_
  exact hh)
 clear k4
 obtain ⟨T70, h71, X72, e73, W74, st75⟩ := putF X53 hx hZ hown (host := "") (Or.inl (wT hw 270 rfl)) Via.refl e54 F61 F58 (Or.inr ⟨(wT hw 271 rfl), rfl, hnm⟩) (wT hw 206 rfl) (ty := .object oS) (by decide) rfl rfl (g := (mkF m 12 #[vR ex, vR mm, vR a1, vR a2, vL vv, .second, .val .null, .val .null, .val .null, vI (0 : Int32)] [.ref a2, .ref ex])) rfl rfl (hb hby o_h514)
 have N76 := Fr.snoc X72 N57 f11_
 have F77 := Exa.wr W74 F58
 have F78 := Fld.other W74 F59 (Or.inr (slot_ne (Or.inl (wT hw 263 rfl)) (Or.inr (wT hw 271 rfl)) (by decide) (t := (.object oS)) (t' := (.object oS)) (by decide) (by decide)))
 have F79 := Fld.other W74 F60 (Or.inr (slot_ne (Or.inr (wT hw 269 rfl)) (Or.inr (wT hw 271 rfl)) (by decide) (t := (.object oS)) (t' := (.object oS)) (by decide) (by decide)))
 have F80 : Fld Z h71 ex oV "id" "Ljava/lang/String;" (.ref a2) := Fld.same W74 F61
 have F81 := Fld.other W74 F62 (Or.inr (slot_ne (Or.inr (wT hw 273 rfl)) (Or.inr (wT hw 271 rfl)) (by decide) (t := .long) (t' := (.object oS)) (by decide) (by decide)))
 have F82 := Fld.other W74 F63 (Or.inr (slot_ne (Or.inr (wT hw 275 rfl)) (Or.inr (wT hw 271 rfl)) (by decide) (t := (.object "java/lang/Long")) (t' := (.object oS)) (by decide) (by decide)))
 have F83 := Fld.other W74 F64 (Or.inr (slot_ne (Or.inr (wT hw 277 rfl)) (Or.inr (wT hw 271 rfl)) (by decide) (t := (.object oS)) (t' := (.object oS)) (by decide) (by decide)))
 have F84 := Fld.other W74 F65 (Or.inr (slot_ne (Or.inr (wT hw 279 rfl)) (Or.inr (wT hw 271 rfl)) (by decide) (t := (.object "java/time/Instant")) (t' := (.object oS)) (by decide) (by decide)))
 have F85 := Fld.other W74 F66 (Or.inr (slot_ne (Or.inr (wT hw 281 rfl)) (Or.inr (wT hw 271 rfl)) (by decide) (t := .boolean) (t' := (.object oS)) (by decide) (by decide)))
 have Z86 : n0 ≤ h71.size := W74.size ▸ Z67
 have O87 := O68.wr W74 f11_
 have P88 : Keep h0 h71 [ex] := P69.wr W74 (Or.inl (List.mem_of_getElem? (i := 0) rfl))
 have k6 : o_J p e below T70 m 15 #[vR ex, vR mm, vR a1, vR a2, vL vv, .second, .val .null, .val .null, .val .null, vI (0 : Int32)] [] B_ := fun t_ hh => k5 t_ (st75 t_ hh)
 clear k5 st75 X53 e54
 have k7 : o_J p e below T70 m 18 #[vR ex, vR mm, vR a1, vR a2, vL vv, .second, .val .null, .val .null, .val .null, vI (0 : Int32)] [.long vv, .ref ex] B_ := fun t_ hh => k6 t_ (by
  refine XS.aloadN X72.here hx rfl (hb hby o_h515) rfl rfl ?_
  refine XS.lload X72.here hx rfl (hb hby o_h516) rfl ?_
  exact hh)
 clear k6
 obtain ⟨T89, h90, X91, e92, W93, st94⟩ := putF X72 hx hZ hown (host := "") (Or.inl (wT hw 272 rfl)) Via.refl e73 F81 F77 (Or.inr ⟨(wT hw 273 rfl), rfl, hnm⟩) (wT hw 206 rfl) (ty := .long) (by decide) rfl rfl (g := (mkF m 18 #[vR ex, vR mm, vR a1, vR a2, vL vv, .second, .val .null, .val .null, .val .null, vI (0 : Int32)] [.long vv, .ref ex])) rfl rfl (hb hby o_h517)
 have N95 := Fr.snoc X91 N76 f11_
 have F96 := Exa.wr W93 F77
 have F97 := Fld.other W93 F78 (Or.inr (slot_ne (Or.inl (wT hw 263 rfl)) (Or.inr (wT hw 273 rfl)) (by decide) (t := (.object oS)) (t' := .long) (by decide) (by decide)))
 have F98 := Fld.other W93 F79 (Or.inr (slot_ne (Or.inr (wT hw 269 rfl)) (Or.inr (wT hw 273 rfl)) (by decide) (t := (.object oS)) (t' := .long) (by decide) (by decide)))
 have F99 := Fld.other W93 F80 (Or.inr (slot_ne (Or.inr (wT hw 271 rfl)) (Or.inr (wT hw 273 rfl)) (by decide) (t := (.object oS)) (t' := .long) (by decide) (by decide)))
 have F100 : Fld Z h90 ex oV "expectedVersion" "J" (.long vv) := Fld.same W93 F81
 have F101 := Fld.other W93 F82 (Or.inr (slot_ne (Or.inr (wT hw 275 rfl)) (Or.inr (wT hw 273 rfl)) (by decide) (t := (.object "java/lang/Long")) (t' := .long) (by decide) (by decide)))
 have F102 := Fld.other W93 F83 (Or.inr (slot_ne (Or.inr (wT hw 277 rfl)) (Or.inr (wT hw 273 rfl)) (by decide) (t := (.object oS)) (t' := .long) (by decide) (by decide)))
 have F103 := Fld.other W93 F84 (Or.inr (slot_ne (Or.inr (wT hw 279 rfl)) (Or.inr (wT hw 273 rfl)) (by decide) (t := (.object "java/time/Instant")) (t' := .long) (by decide) (by decide)))
 have F104 := Fld.other W93 F85 (Or.inr (slot_ne (Or.inr (wT hw 281 rfl)) (Or.inr (wT hw 273 rfl)) (by decide) (t := .boolean) (t' := .long) (by decide) (by decide)))
 have Z105 : n0 ≤ h90.size := W93.size ▸ Z86
 have O106 := O87.wr W93 f11_
 have P107 : Keep h0 h90 [ex] := P88.wr W93 (Or.inl (List.mem_of_getElem? (i := 0) rfl))
 have k8 : o_J p e below T89 m 21 #[vR ex, vR mm, vR a1, vR a2, vL vv, .second, .val .null, .val .null, .val .null, vI (0 : Int32)] [] B_ := fun t_ hh => k7 t_ (st94 t_ hh)
 clear k7 st94 X72 e73
 have k9 : o_J p e below T89 m 24 #[vR ex, vR mm, vR a1, vR a2, vL vv, .second, .val .null, .val .null, .val .null, vI (0 : Int32)] [.null, .ref ex] B_ := fun t_ hh => k8 t_ (by
  refine XS.aloadN X91.here hx rfl (hb hby o_h518) rfl rfl ?_
  refine XS.aload X91.here hx rfl (hb hby o_h519) rfl rfl ?_
  exact hh)
 clear k8
 obtain ⟨T108, h109, X110, e111, W112, st113⟩ := putF X91 hx hZ hown (host := "") (Or.inl (wT hw 274 rfl)) Via.refl e92 F101 F96 (Or.inr ⟨(wT hw 275 rfl), rfl, hnm⟩) (wT hw 206 rfl) (ty := .object "java/lang/Long") (by decide) rfl rfl (g := (mkF m 24 #[vR ex, vR mm, vR a1, vR a2, vL vv, .second, .val .null, .val .null, .val .null, vI (0 : Int32)] [.null, .ref ex])) rfl rfl (hb hby o_h520)
 have N114 := Fr.snoc X110 N95 f11_
 have F115 := Exa.wr W112 F96
 have F116 := Fld.other W112 F97 (Or.inr (slot_ne (Or.inl (wT hw 263 rfl)) (Or.inr (wT hw 275 rfl)) (by decide) (t := (.object oS)) (t' := (.object "java/lang/Long")) (by decide) (by decide)))
 have F117 := Fld.other W112 F98 (Or.inr (slot_ne (Or.inr (wT hw 269 rfl)) (Or.inr (wT hw 275 rfl)) (by decide) (t := (.object oS)) (t' := (.object "java/lang/Long")) (by decide) (by decide)))
 have F118 := Fld.other W112 F99 (Or.inr (slot_ne (Or.inr (wT hw 271 rfl)) (Or.inr (wT hw 275 rfl)) (by decide) (t := (.object oS)) (t' := (.object "java/lang/Long")) (by decide) (by decide)))
 have F119 := Fld.other W112 F100 (Or.inr (slot_ne (Or.inr (wT hw 273 rfl)) (Or.inr (wT hw 275 rfl)) (by decide) (t := .long) (t' := (.object "java/lang/Long")) (by decide) (by decide)))
 have F120 : Fld Z h109 ex oV "currentVersion" "Ljava/lang/Long;" .null := Fld.same W112 F101
 have F121 := Fld.other W112 F102 (Or.inr (slot_ne (Or.inr (wT hw 277 rfl)) (Or.inr (wT hw 275 rfl)) (by decide) (t := (.object oS)) (t' := (.object "java/lang/Long")) (by decide) (by decide)))
 have F122 := Fld.other W112 F103 (Or.inr (slot_ne (Or.inr (wT hw 279 rfl)) (Or.inr (wT hw 275 rfl)) (by decide) (t := (.object "java/time/Instant")) (t' := (.object "java/lang/Long")) (by decide) (by decide)))
 have F123 := Fld.other W112 F104 (Or.inr (slot_ne (Or.inr (wT hw 281 rfl)) (Or.inr (wT hw 275 rfl)) (by decide) (t := .boolean) (t' := (.object "java/lang/Long")) (by decide) (by decide)))
 have Z124 : n0 ≤ h109.size := W112.size ▸ Z105
 have O125 := O106.wr W112 f11_
 have P126 : Keep h0 h109 [ex] := P107.wr W112 (Or.inl (List.mem_of_getElem? (i := 0) rfl))
 have k10 : o_J p e below T108 m 27 #[vR ex, vR mm, vR a1, vR a2, vL vv, .second, .val .null, .val .null, .val .null, vI (0 : Int32)] [] B_ := fun t_ hh => k9 t_ (st113 t_ hh)
 clear k9 st113 X91 e92
 have k11 : o_J p e below T108 m 30 #[vR ex, vR mm, vR a1, vR a2, vL vv, .second, .val .null, .val .null, .val .null, vI (0 : Int32)] [.null, .ref ex] B_ := fun t_ hh => k10 t_ (by
  refine XS.aloadN X110.here hx rfl (hb hby o_h521) rfl rfl ?_
  refine XS.aload X110.here hx rfl (hb hby o_h522) rfl rfl ?_
  exact hh)
 clear k10
 obtain ⟨T127, h128, X129, e130, W131, st132⟩ := putF X110 hx hZ hown (host := "") (Or.inl (wT hw 276 rfl)) Via.refl e111 F121 F115 (Or.inr ⟨(wT hw 277 rfl), rfl, hnm⟩) (wT hw 206 rfl) (ty := .object oS) (by decide) rfl rfl (g := (mkF m 30 #[vR ex, vR mm, vR a1, vR a2, vL vv, .second, .val .null, .val .null, .val .null, vI (0 : Int32)] [.null, .ref ex])) rfl rfl (hb hby o_h523)
 have N133 := Fr.snoc X129 N114 f11_
 have F134 := Exa.wr W131 F115
 have F135 := Fld.other W131 F116 (Or.inr (slot_ne (Or.inl (wT hw 263 rfl)) (Or.inr (wT hw 277 rfl)) (by decide) (t := (.object oS)) (t' := (.object oS)) (by decide) (by decide)))
 have F136 := Fld.other W131 F117 (Or.inr (slot_ne (Or.inr (wT hw 269 rfl)) (Or.inr (wT hw 277 rfl)) (by decide) (t := (.object oS)) (t' := (.object oS)) (by decide) (by decide)))
 have F137 := Fld.other W131 F118 (Or.inr (slot_ne (Or.inr (wT hw 271 rfl)) (Or.inr (wT hw 277 rfl)) (by decide) (t := (.object oS)) (t' := (.object oS)) (by decide) (by decide)))
 have F138 := Fld.other W131 F119 (Or.inr (slot_ne (Or.inr (wT hw 273 rfl)) (Or.inr (wT hw 277 rfl)) (by decide) (t := .long) (t' := (.object oS)) (by decide) (by decide)))
 have F139 := Fld.other W131 F120 (Or.inr (slot_ne (Or.inr (wT hw 275 rfl)) (Or.inr (wT hw 277 rfl)) (by decide) (t := (.object "java/lang/Long")) (t' := (.object oS)) (by decide) (by decide)))
 have F140 : Fld Z h128 ex oV "changedBy" "Ljava/lang/String;" .null := Fld.same W131 F121
 have F141 := Fld.other W131 F122 (Or.inr (slot_ne (Or.inr (wT hw 279 rfl)) (Or.inr (wT hw 277 rfl)) (by decide) (t := (.object "java/time/Instant")) (t' := (.object oS)) (by decide) (by decide)))
 have F142 := Fld.other W131 F123 (Or.inr (slot_ne (Or.inr (wT hw 281 rfl)) (Or.inr (wT hw 277 rfl)) (by decide) (t := .boolean) (t' := (.object oS)) (by decide) (by decide)))
 have Z143 : n0 ≤ h128.size := W131.size ▸ Z124
 have O144 := O125.wr W131 f11_
 have P145 : Keep h0 h128 [ex] := P126.wr W131 (Or.inl (List.mem_of_getElem? (i := 0) rfl))
 have k12 : o_J p e below T127 m 33 #[vR ex, vR mm, vR a1, vR a2, vL vv, .second, .val .null, .val .null, .val .null, vI (0 : Int32)] [] B_ := fun t_ hh => k11 t_ (st132 t_ hh)
 clear k11 st132 X110 e111
 have k13 : o_J p e below T127 m 36 #[vR ex, vR mm, vR a1, vR a2, vL vv, .second, .val .null, .val .null, .val .null, vI (0 : Int32)] [.null, .ref ex] B_ := fun t_ hh => k12 t_ (by
  refine XS.aloadN X129.here hx rfl (hb hby o_h524) rfl rfl ?_
  refine XS.aload X129.here hx rfl (hb hby o_h525) rfl rfl ?_
  exact hh)
 clear k12
 obtain ⟨T146, h147, X148, e149, W150, st151⟩ := putF X129 hx hZ hown (host := "") (Or.inl (wT hw 278 rfl)) Via.refl e130 F141 F134 (Or.inr ⟨(wT hw 279 rfl), rfl, hnm⟩) (wT hw 206 rfl) (ty := .object "java/time/Instant") (by decide) rfl rfl (g := (mkF m 36 #[vR ex, vR mm, vR a1, vR a2, vL vv, .second, .val .null, .val .null, .val .null, vI (0 : Int32)] [.null, .ref ex])) rfl rfl (hb hby o_h526)
 have N152 := Fr.snoc X148 N133 f11_
 have F153 := Exa.wr W150 F134
 have F154 := Fld.other W150 F135 (Or.inr (slot_ne (Or.inl (wT hw 263 rfl)) (Or.inr (wT hw 279 rfl)) (by decide) (t := (.object oS)) (t' := (.object "java/time/Instant")) (by decide) (by decide)))
 have F155 := Fld.other W150 F136 (Or.inr (slot_ne (Or.inr (wT hw 269 rfl)) (Or.inr (wT hw 279 rfl)) (by decide) (t := (.object oS)) (t' := (.object "java/time/Instant")) (by decide) (by decide)))
 have F156 := Fld.other W150 F137 (Or.inr (slot_ne (Or.inr (wT hw 271 rfl)) (Or.inr (wT hw 279 rfl)) (by decide) (t := (.object oS)) (t' := (.object "java/time/Instant")) (by decide) (by decide)))
 have F157 := Fld.other W150 F138 (Or.inr (slot_ne (Or.inr (wT hw 273 rfl)) (Or.inr (wT hw 279 rfl)) (by decide) (t := .long) (t' := (.object "java/time/Instant")) (by decide) (by decide)))
 have F158 := Fld.other W150 F139 (Or.inr (slot_ne (Or.inr (wT hw 275 rfl)) (Or.inr (wT hw 279 rfl)) (by decide) (t := (.object "java/lang/Long")) (t' := (.object "java/time/Instant")) (by decide) (by decide)))
 have F159 := Fld.other W150 F140 (Or.inr (slot_ne (Or.inr (wT hw 277 rfl)) (Or.inr (wT hw 279 rfl)) (by decide) (t := (.object oS)) (t' := (.object "java/time/Instant")) (by decide) (by decide)))
 have F160 : Fld Z h147 ex oV "changedAt" "Ljava/time/Instant;" .null := Fld.same W150 F141
 have F161 := Fld.other W150 F142 (Or.inr (slot_ne (Or.inr (wT hw 281 rfl)) (Or.inr (wT hw 279 rfl)) (by decide) (t := .boolean) (t' := (.object "java/time/Instant")) (by decide) (by decide)))
 have Z162 : n0 ≤ h147.size := W150.size ▸ Z143
 have O163 := O144.wr W150 f11_
 have P164 : Keep h0 h147 [ex] := P145.wr W150 (Or.inl (List.mem_of_getElem? (i := 0) rfl))
 have k14 : o_J p e below T146 m 39 #[vR ex, vR mm, vR a1, vR a2, vL vv, .second, .val .null, .val .null, .val .null, vI (0 : Int32)] [] B_ := fun t_ hh => k13 t_ (st151 t_ hh)
 clear k13 st151 X129 e130
 have k15 : o_J p e below T146 m 42 #[vR ex, vR mm, vR a1, vR a2, vL vv, .second, .val .null, .val .null, .val .null, vI (0 : Int32)] [(.int 0), .ref ex] B_ := fun t_ hh => k14 t_ (by
  refine XS.aloadN X148.here hx rfl (hb hby o_h527) rfl rfl ?_
  refine XS.iload X148.here hx rfl (hb hby o_h528) rfl ?_
  exact hh)
 clear k14
 obtain ⟨T165, h166, X167, e168, W169, st170⟩ := putF X148 hx hZ hown (host := "") (Or.inl (wT hw 280 rfl)) Via.refl e149 F161 F153 (Or.inr ⟨(wT hw 281 rfl), rfl, hnm⟩) (wT hw 206 rfl) (ty := .boolean) (by decide) rfl rfl (g := (mkF m 42 #[vR ex, vR mm, vR a1, vR a2, vL vv, .second, .val .null, .val .null, .val .null, vI (0 : Int32)] [(.int 0), .ref ex])) rfl rfl (hb hby o_h529)
 have N171 := Fr.snoc X167 N152 f11_
 have F172 := Exa.wr W169 F153
 have F173 := Fld.other W169 F154 (Or.inr (slot_ne (Or.inl (wT hw 263 rfl)) (Or.inr (wT hw 281 rfl)) (by decide) (t := (.object oS)) (t' := .boolean) (by decide) (by decide)))
 have F174 := Fld.other W169 F155 (Or.inr (slot_ne (Or.inr (wT hw 269 rfl)) (Or.inr (wT hw 281 rfl)) (by decide) (t := (.object oS)) (t' := .boolean) (by decide) (by decide)))
 have F175 := Fld.other W169 F156 (Or.inr (slot_ne (Or.inr (wT hw 271 rfl)) (Or.inr (wT hw 281 rfl)) (by decide) (t := (.object oS)) (t' := .boolean) (by decide) (by decide)))
 have F176 := Fld.other W169 F157 (Or.inr (slot_ne (Or.inr (wT hw 273 rfl)) (Or.inr (wT hw 281 rfl)) (by decide) (t := .long) (t' := .boolean) (by decide) (by decide)))
 have F177 := Fld.other W169 F158 (Or.inr (slot_ne (Or.inr (wT hw 275 rfl)) (Or.inr (wT hw 281 rfl)) (by decide) (t := (.object "java/lang/Long")) (t' := .boolean) (by decide) (by decide)))
 have F178 := Fld.other W169 F159 (Or.inr (slot_ne (Or.inr (wT hw 277 rfl)) (Or.inr (wT hw 281 rfl)) (by decide) (t := (.object oS)) (t' := .boolean) (by decide) (by decide)))
 have F179 := Fld.other W169 F160 (Or.inr (slot_ne (Or.inr (wT hw 279 rfl)) (Or.inr (wT hw 281 rfl)) (by decide) (t := (.object "java/time/Instant")) (t' := .boolean) (by decide) (by decide)))
 have F180 : Fld Z h166 ex oV "deleted" "Z" (.int 0) := Fld.same W169 F161
 have Z181 : n0 ≤ h166.size := W169.size ▸ Z162
 have O182 := O163.wr W169 f11_
 have P183 : Keep h0 h166 [ex] := P164.wr W169 (Or.inl (List.mem_of_getElem? (i := 0) rfl))
 have k16 : o_J p e below T165 m 45 #[vR ex, vR mm, vR a1, vR a2, vL vv, .second, .val .null, .val .null, .val .null, vI (0 : Int32)] [] B_ := fun t_ hh => k15 t_ (st170 t_ hh)
 clear k15 st170 X148 e149
 obtain ⟨fs, hr, hrun, hended, hW, hsame⟩ := X167.leave (v := none) (fun _ => rfl)
 refine ⟨_, _, (o_from hB_ (k16 _ (X167.returnOut hx Bd.returns (hb hby o_h530) hr))), hrun, hended, _, _, rfl, ?_, ⟨_, rfl⟩, hW, hsame.mono (o_l rfl) (o_l rfl)⟩
 show Q_rmVi Z ex mm a1 a2 vv h0 n0 _ T165.heap _
 rw [e168]
 exact ⟨rfl, N171, P183, F172, F173, F174, F175, F176, F177, F178, F179, F180, trivial⟩
def o_msg (c1 c2 : List Int32) (v : Int64) (ms : List Int32) : Prop := ∃ es, o_exp v es ∧ ms = ((((o_lit1 ++ c1) ++ o_lit2) ++ c2) ++ o_lit3) ++ es
theorem o_agg_len {c1 c2 ms : List Int32} (h1 : c1.length ≤ 2) (h2 : c2.length ≤ 2) (hm : ms = (((o_lit1 ++ c1) ++ o_lit2) ++ c2)) : ms.length ≤ 35 := by
  rw [hm]; simp only [List.length_append, o_lit1_len, o_lit2_len]; omega
theorem o_exp_len {v : Int64} {es : List Int32} (h : o_exp v es) : es.length ≤ 45 := by
  by_cases q : v.toInt < 0
  · rw [h.1 q, o_lit4_len]; omega
  · obtain ⟨gs, e, g⟩ := h.2 (Int.not_lt.mp q)
    have := o_d19 (Int.not_lt.mp q)
    rw [e, List.length_append, o_lit5_len, g.1]; omega
theorem o_len70 {c1 c2 ms us1 us2 : List Int32} (hm : ms = (((o_lit1 ++ c1) ++ o_lit2) ++ c2)) (e1 : us1 = [] ++ ms) (e2 : us2 = us1 ++ o_lit3) : 46 ≤ us2.length := by
  rw [e2, e1, hm]; simp only [List.length_append, List.nil_append, o_lit1_len, o_lit2_len, o_lit3_len]; omega
theorem o_arvne {Z : State} {h : Heap} {a b : Addr} {k1 k2 : ClassId} {v1 v2 : List Value} {d1 d2 : Value} {n1 n2 : Nat} (A : Arv Z h a k1 .byte (Int32.ofNat n1) v1 d1) (B : Arv Z h b k2 .byte (Int32.ofNat n2) v2 d2) (h1 : n1 ≤ 45) (h2 : 46 ≤ n2) (h3 : n2 ≤ 1000) : a ≠ b := arv_ne A B (Or.inl (by rw [o_natC (by omega), o_natC (by omega)]; omega))
def Q_rmNv (Z : State) (a1 : Addr) (u1 : Addr) (k1 : ClassId) (c1 : List Int32) (a2 : Addr) (u2 : Addr) (k2 : ClassId) (c2 : List Int32) (vv : Int64) (h0 : Heap) (n0 : Nat) (v : Option Value) (h : Heap) (L : List Loc) : Prop := ∃ ex : Addr, ∃ mm : Addr, ∃ tm : Addr, ∃ km : ClassId, ∃ ms : List Int32, v = some (.ref ex) ∧ Fr n0 L ∧ Keep h0 h [] ∧ Exa Z h ex oV ∧ Fld Z h ex oT "detailMessage" "Ljava/lang/String;" (.ref mm) ∧ Fld Z h ex oV "type" "Ljava/lang/String;" (.ref a1) ∧ Fld Z h ex oV "id" "Ljava/lang/String;" (.ref a2) ∧ Fld Z h ex oV "expectedVersion" "J" (.long vv) ∧ Fld Z h ex oV "currentVersion" "Ljava/lang/Long;" .null ∧ Fld Z h ex oV "changedBy" "Ljava/lang/String;" .null ∧ Fld Z h ex oV "changedAt" "Ljava/time/Instant;" .null ∧ Fld Z h ex oV "deleted" "Z" (.int (0 : Int32)) ∧ Exa Z h mm oS ∧ Fld Z h mm oS "value" "[B" (.ref tm) ∧ Fld Z h mm oS "coder" "B" (.int (0 : Int32)) ∧ Arv Z h tm km .byte (Int32.ofNat (List.length ms)) (o_by ms) (.int (0 : Int32)) ∧ o_msg c1 c2 vv ms ∧ True
theorem o_h531 : decode prog_14_method_4_code 0 = .ok (.aload_n 0, 1) := by decide +kernel
theorem o_h532 : decode prog_14_method_4_code 1 = .ok (.aload_n 1, 1) := by decide +kernel
theorem o_h533 : decode prog_14_method_4_code 2 = .ok (.invokestatic 35, 3) := by decide +kernel
theorem o_h534 : parseMethodDescriptor "(Ljava/lang/String;Ljava/lang/String;)V" = some ⟨[.object oS, .object oS], none⟩ := by decide +kernel
theorem o_h535 : decode prog_14_method_4_code 5 = .ok (.new 43, 3) := by decide +kernel
theorem o_h536 : decode prog_14_method_4_code 8 = .ok (.dup, 1) := by decide +kernel
theorem o_h537 : decode prog_14_method_4_code 9 = .ok (.invokespecial 45, 3) := by decide +kernel
theorem o_h538 : decode prog_14_method_4_code 12 = .ok (.aload_n 0, 1) := by decide +kernel
theorem o_h539 : decode prog_14_method_4_code 13 = .ok (.aload_n 1, 1) := by decide +kernel
theorem o_h540 : decode prog_14_method_4_code 14 = .ok (.invokestatic 61, 3) := by decide +kernel
theorem o_h541 : parseMethodDescriptor "(Ljava/lang/String;Ljava/lang/String;)Ljava/lang/String;" = some ⟨[.object oS, .object oS], some (.object oS)⟩ := by decide +kernel
theorem o_h542 : decode prog_14_method_4_code 17 = .ok (.invokevirtual 48, 3) := by decide +kernel
theorem o_h543 : decode prog_14_method_4_code 20 = .ok (.ldc 95, 2) := by decide +kernel
theorem o_h544 : decode prog_14_method_4_code 22 = .ok (.invokevirtual 48, 3) := by decide +kernel
theorem o_h545 : decode prog_14_method_4_code 25 = .ok (.lload_n 2, 1) := by decide +kernel
theorem o_h546 : decode prog_14_method_4_code 26 = .ok (.invokestatic 91, 3) := by decide +kernel
theorem o_h547 : parseMethodDescriptor "(J)Ljava/lang/String;" = some ⟨[.long], some (.object oS)⟩ := by decide +kernel
theorem o_h548 : decode prog_14_method_4_code 29 = .ok (.invokevirtual 48, 3) := by decide +kernel
theorem o_h549 : decode prog_14_method_4_code 32 = .ok (.invokevirtual 57, 3) := by decide +kernel
theorem o_h550 : decode prog_14_method_4_code 35 = .ok (.astore 4, 2) := by decide +kernel
theorem o_h551 : decode prog_14_method_4_code 37 = .ok (.new 8, 3) := by decide +kernel
theorem o_h552 : decode prog_14_method_4_code 40 = .ok (.dup, 1) := by decide +kernel
theorem o_h553 : decode prog_14_method_4_code 41 = .ok (.aload 4, 2) := by decide +kernel
theorem o_h554 : decode prog_14_method_4_code 43 = .ok (.aload_n 0, 1) := by decide +kernel
theorem o_h555 : decode prog_14_method_4_code 44 = .ok (.aload_n 1, 1) := by decide +kernel
theorem o_h556 : decode prog_14_method_4_code 45 = .ok (.lload_n 2, 1) := by decide +kernel
theorem o_h557 : decode prog_14_method_4_code 46 = .ok (.aconst_null, 1) := by decide +kernel
theorem o_h558 : decode prog_14_method_4_code 47 = .ok (.aconst_null, 1) := by decide +kernel
theorem o_h559 : decode prog_14_method_4_code 48 = .ok (.aconst_null, 1) := by decide +kernel
theorem o_h560 : decode prog_14_method_4_code 49 = .ok (.iconst 0, 1) := by decide +kernel
theorem o_h561 : decode prog_14_method_4_code 50 = .ok (.invokespecial 84, 3) := by decide +kernel
theorem o_h562 : parseMethodDescriptor "(Ljava/lang/String;Ljava/lang/String;Ljava/lang/String;JLjava/lang/Long;Ljava/lang/String;Ljava/time/Instant;Z)V" = some ⟨[.object oS, .object oS, .object oS, .long, .object "java/lang/Long", .object oS, .object "java/time/Instant", .boolean], none⟩ := by decide +kernel
theorem o_h563 : decode prog_14_method_4_code 53 = .ok (.areturn, 1) := by decide +kernel
theorem rmNv (l : Launch) (Z : State) (a0 : Array Value) (hw : ∀ d ∈ tables_1, d.before a0 Z = true) (ws : List Jvm.Cond) (a1 : Addr) (u1 : Addr) (k1 : ClassId) (c1 : List Int32) (a2 : Addr) (u2 : Addr) (k2 : ClassId) (c2 : List Int32) (vv : Int64) (h0 : Heap) (n0 : Nat) (Z0 : n0 ≤ h0.size) (f0_ : Exa Z h0 a1 oS) (f1_ : Fld Z h0 a1 oS "value" "[B" (.ref u1)) (f2_ : Fld Z h0 a1 oS "coder" "B" (.int (0 : Int32))) (f3_ : Arv Z h0 u1 k1 .byte (Int32.ofNat (List.length c1)) (o_by c1) (.int (0 : Int32))) (hc1 : List.length c1 ≤ 2) (f5_ : Exa Z h0 a2 oS) (f6_ : Fld Z h0 a2 oS "value" "[B" (.ref u2)) (f7_ : Fld Z h0 a2 oS "coder" "B" (.int (0 : Int32))) (f8_ : Arv Z h0 u2 k2 .byte (Int32.ofNat (List.length c2)) (o_by c2) (.int (0 : Int32))) (hc2 : List.length c2 ≤ 2) (f10_ : Old Z n0 h0) (hst : l.stackTraces = true) (hr2 : ∀ d ∈ twoRefs, d.before a0 Z = true) (ci : Int32) (sC : Sta Z Z.heap oS "COMPACT_STRINGS" "Z" (.int ci)) (hc : ¬ ci = 0) (hdg : o_Dig Z) :
    MetFree l (⟨oV, "neverCreated", "(Ljava/lang/String;Ljava/lang/String;J)Lcom/example/aggregate_lock/aggregatelock/outcome/VersionConflictException;"⟩ : MethodName) (head1 (Jvm.Cond.code (⟨oV, "neverCreated", "(Ljava/lang/String;Ljava/lang/String;J)Lcom/example/aggregate_lock/aggregatelock/outcome/VersionConflictException;"⟩ : MethodName) prog_14_method_4_code 5 (some (.object oV)) :: ws) (rO 8 35 5325 146)) (fun ar_ U => ar_ = #[.ref a1, .ref a2, .long vv] ∧ Z.Warmed39 U.vm ∧ U.heap = h0 ∧ CHv Z o_EL U.vm h0) (fun _ _ bl s _ => s.vm.MethodsKnown ∧ s.vm.FramesKnown bl) (fun _ U o U' => ∃ v L, o = .returned v ∧ Q_rmNv Z a1 u1 k1 c1 a2 u2 k2 c2 vv h0 n0 v U'.heap L ∧ CHr Z o_EL U.vm U.heap U'.vm U'.heap ∧ ReturnedEndW U o U' L (rO 8 35 5325 146).cells (rO 8 35 5325 146).slots) := by
 refine MetFree.of_bodySF (plainFor_of_name o_h456) hisR ?_
 intro p e s m args below meth c s₁ Bd hml0 hP hK
 obtain ⟨rfl, hZ, hh, hCH⟩ := hP
 have hx := Bd.exec
 have hby := Bd.bytes
 have hml : c.maxLocals = 5 := hml0
 have hown : s.vm.findClass oV = some m.cls := findClass_of_methodNamed Bd.named
 have hnm := (name_of_methodNamed Bd.named Bd.method).1
 have hTK := Vm.MethodsKnown.alikeC hZ.alike.symm hK.1
 have hBl := Vm.FramesKnown.alikeC hZ.alike.symm hK.2
 have X0 : Stand p l e (rO 8 35 5325 146) (s.setVm s.vm) m #[.ref a1, .ref a2, .long vv] below meth c s₁ [] 0 0 := Stand.of_body Bd
 have hS0 : s.Since s.vm 0 := (State.WarmedH.refl s).since 0
 have hk0 : 0 ≤ h0.size := Nat.zero_le _
 have hZ : Z.Warmed39 (s.setVm s.vm).vm := hZ
 have hown : (s.setVm s.vm).vm.findClass oV = some m.cls := hown
 have Cr0 : CHr Z o_EL s.vm h0 s.vm h0 := CHr.refl hCH
 have e0 : s₁.heap = h0 := by rw [← hh, Bd.state]; rfl
 have N0 := Fr.nil n0
 obtain ⟨B_, hB_⟩ : ∃ z, z = s₁.setTop (entryFrame m #[.ref a1, .ref a2, .long vv] 5) := ⟨_, rfl⟩
 have k0 : o_K p e below (s₁.setTop (mkF m 0 #[.val (.ref a1), .val (.ref a2), .val (.long vv), .second, .unset] [])) B_ := by rw [hB_]; exact fun t k => castTop (by clear k; first | (simp [entryFrame, mkF, argsToLocals, Value.category, maxLocals]; done) | rfl) k
 have K0 : Keep h0 h0 [] := Keep.refl _ _
 have k1 : o_J p e below s₁ m 2 #[vR a1, vR a2, vL vv, .second, .unset] [.ref a2, .ref a1] B_ := fun t_ hh => k0 t_ (by
  refine XS.aloadN X0.here hx rfl (hb hby o_h531) rfl rfl ?_
  refine XS.aloadN X0.here hx rfl (hb hby o_h532) rfl rfl ?_
  exact hh)
 obtain ⟨_, _, ⟨T21, L22, k_23, n_24⟩, -, X25, hSc32, hgr33, ⟨Lc26, hQ27, l_28, y_29, z_30, C34⟩, st31⟩ := o_callSSU X0 hx (owner := oL) (x := ⟨oV, "requireKey", "(Ljava/lang/String;Ljava/lang/String;)V"⟩) hown (mvT hZ (wT hw 30 rfl)) (mvT hZ (wT hw 31 rfl)) (mvT hZ (wT hw 32 rfl)) (mvT hZ (wT hw 33 rfl)) (mvT hZ (wT hw 34 rfl)) (by decide) (backOfSH (W := 0) (rmRk l Z a0 hw [] a1 a2 h0 n0 Z0  ) hZ (wT hw 34 rfl) (wT hw 33 rfl) (by decide) (by decide) (o_EW hw) Cr0.1) (g := (mkF m 2 #[vR a1, vR a2, vL vv, .second, .unset] [.ref a2, .ref a1])) rfl (by rw [hml]; rfl) (argsL := [.ref a1, .ref a2]) (rest := []) (lenOf o_h534 rfl) rfl (o_w0 rfl) (hb hby o_h533) (fun _ _ => ⟨rfl, e0, o_l rfl, o_l rfl⟩)
 dsimp only [Pt.U, Pt.locs, Pt.cells, Pt.slots] at X25 hSc32 hgr33 l_28 y_29 z_30 st31 hQ27 C34
 subst l_28 y_29 z_30
 obtain ⟨X35, hS36, hZ37, hown38⟩ := rebS hS0 (by rw [e0]; exact hk0) X25 hSc32 hgr33 hZ hown
 have Cr39 := Cr0.trans C34
 obtain ⟨rfl, N40, K41, -⟩ := hQ27
 have N42 := Fr.app N0 N40
 have F43 := f0_.keep K41
 have F44 := f1_.keep K41 nin0
 have F45 := f2_.keep K41 nin0
 have F46 := f3_.keep K41 nin0
 have F47 := f5_.keep K41
 have F48 := f6_.keep K41 nin0
 have F49 := f7_.keep K41 nin0
 have F50 := f8_.keep K41 nin0
 have Z51 : n0 ≤ T21.heap.size := Nat.le_trans Z0 K41.1
 have hk52 := Nat.le_trans hk0 K41.1
 have O53 := f10_.keep K41 all0
 have P54 : Keep h0 T21.heap [] := K0.trans K41 (fun _ q => nomatch q)
 have e55 : T21.heap = T21.heap := rfl
 have k2 : o_J p e below T21 m 5 #[vR a1, vR a2, vL vv, .second, .unset] [] B_ := fun t_ hh => k1 t_ (st31.trans hh)
 clear k1 st31
 obtain ⟨T56, h57, X58, e59, E60, A61, D62, U64, st63⟩ := newO X35 hx hZ37 hown38 (wT hw 41 rfl) (wT hw 42 rfl) (wT hw 43 rfl) e55 (g := (mkF m 5 #[vR a1, vR a2, vL vv, .second, .unset] [])) rfl (hb hby o_h535) (by decide) (by decide)
 obtain ⟨a65, g66⟩ : ∃ z, z = T21.heap.size := ⟨_, rfl⟩
 rw [← g66] at A61 D62 U64 st63
 have H067 : h0.size ≤ a65 := Nat.le_trans P54.1 (Nat.le_of_eq g66.symm)
 have G68 : n0 ≤ a65 := Nat.le_trans Z51 (Nat.le_of_eq g66.symm)
 have hk69 := Nat.le_trans (Nat.le_refl T21.heap.size) E60.1
 have Sf70 := Safe.ext E60 Cr39.1 (Safe.new (x := a65) (Nat.le_of_eq g66.symm))
 have F71 := Exa.ext (h' := h57) E60 F43
 have F72 := Fld.ext (h' := h57) E60 F44
 have F73 := Fld.ext (h' := h57) E60 F45
 have F74 := F46.ext E60
 have F75 := Exa.ext (h' := h57) E60 F47
 have F76 := Fld.ext (h' := h57) E60 F48
 have F77 := Fld.ext (h' := h57) E60 F49
 have F78 := F50.ext E60
 have Z79 : n0 ≤ h57.size := Nat.le_trans Z51 E60.1
 have O80 := O53.ext E60
 have P81 : Keep h0 h57 [] := P54.ext E60
 have Cr82 := Cr39.trans (CHr.ext E60 Cr39.1)
 have F83 : Fld Z h57 a65 oA "value" "[B" .null := D62 (Or.inl (wT hw 56 rfl)) (ty := .array .byte) (by decide)
 have F84 : Fld Z h57 a65 oA "coder" "B" (.int 0) := D62 (Or.inl (wT hw 58 rfl)) (ty := .byte) (by decide)
 have F85 : Fld Z h57 a65 oA "count" "I" (.int 0) := D62 (Or.inl (wT hw 88 rfl)) (ty := .int) (by decide)
 have k3 : o_J p e below T56 m 8 #[vR a1, vR a2, vL vv, .second, .unset] [.ref a65] B_ := fun t_ hh => k2 t_ (st63 t_ hh)
 clear k2 st63 X35 e55
 have k4 : o_J p e below T56 m 9 #[vR a1, vR a2, vL vv, .second, .unset] [.ref a65, .ref a65] B_ := fun t_ hh => k3 t_ (by
  refine XS.dup X58.here hx rfl (hb hby o_h536) rfl rfl ?_
  exact hh)
 clear k3
 obtain ⟨_, _, ⟨T86, L87, k_88, n_89⟩, -, X90, ⟨Lc91, hQ92, l_93, y_94, z_95⟩, st96⟩ := X58.specialBack hx (y := ⟨oB, "<init>", "()V"⟩) rfl hown38 (mvT hZ37 (wT hw 44 rfl)) (mvT hZ37 (wT hw 45 rfl)) (mvT hZ37 (wT hw 46 rfl)) (by decide) (backOf (W := 1) (rmSi l Z a0 hw [] a65 h57 n0 Z79 A61 F83 F84 F85 G68 O80 ci sC hc) hZ37 (wT hw 46 rfl) (wT hw 43 rfl) (by decide) (by decide)) (g := (mkF m 9 #[vR a1, vR a2, vL vv, .second, .unset] [.ref a65, .ref a65])) rfl (by rw [hml]; rfl) (Steps.refl _) (a := a65) (argsL := []) (rest := [.ref a65]) (lenOf o_h408 rfl) rfl (o_w0 rfl) (hb hby o_h537) (fun _ _ => ⟨rfl, e59, o_l rfl, o_l rfl⟩)
 dsimp only [Pt.U, Pt.locs, Pt.cells, Pt.slots] at X90 l_93 y_94 z_95 st96 hQ92
 subst l_93 y_94 z_95
 obtain ⟨t298, k299, rfl, N97, K108, F100, F101, F102, F103, F104, F105, F106, F107, -⟩ := hQ92
 have N109 := Fr.app N42 N97
 have H0110 : h0.size ≤ t298 := Nat.le_trans P81.1 F107
 have Sf111 := o_safeNew Cr82.1 F107
 have F112 := F71.keep K108
 have ne114 : a1 ≠ a65 := by rw [g66]; exact Nat.ne_of_lt F43.lt
 have F113 := F72.keep K108 (ninS ne114 nin0)
 have F115 := F73.keep K108 (ninS ne114 nin0)
 have ne117 : u1 ≠ a65 := by rw [g66]; exact Nat.ne_of_lt F46.lt
 have F116 := F74.keep K108 (ninS ne117 nin0)
 have F118 := F75.keep K108
 have ne120 : a2 ≠ a65 := by rw [g66]; exact Nat.ne_of_lt F47.lt
 have F119 := F76.keep K108 (ninS ne120 nin0)
 have F121 := F77.keep K108 (ninS ne120 nin0)
 have ne123 : u2 ≠ a65 := by rw [g66]; exact Nat.ne_of_lt F50.lt
 have F122 := F78.keep K108 (ninS ne123 nin0)
 have F124 := A61.keep K108
 have Z125 : n0 ≤ T86.heap.size := Nat.le_trans Z79 K108.1
 have hk126 := Nat.le_trans hk69 K108.1
 have Sf127 := Safe.keep K108 (allS Sf70 all0) Cr82.1 Sf70
 have Sf128 := Safe.keep K108 (allS Sf70 all0) Cr82.1 Sf111
 have Cr129 := Cr82.trans (CHr.keep K108 (allS Sf70 all0) Cr82.1)
 have O130 := O80.keep K108 (allS G68 all0)
 have P131 : Keep h0 T86.heap [] := P81.trans K108 (allS (P := fun x => x ∈ [] ∨ h0.size ≤ x) (Or.inr H067) all0)
 have e132 : T86.heap = T86.heap := rfl
 have k5 : o_J p e below T86 m 12 #[vR a1, vR a2, vL vv, .second, .unset] [.ref a65] B_ := fun t_ hh => k4 t_ (st96.trans hh)
 clear k4 st96 X58 e59
 have k6 : o_J p e below T86 m 14 #[vR a1, vR a2, vL vv, .second, .unset] [.ref a2, .ref a1, .ref a65] B_ := fun t_ hh => k5 t_ (by
  refine XS.aloadN X90.here hx rfl (hb hby o_h538) rfl rfl ?_
  refine XS.aloadN X90.here hx rfl (hb hby o_h539) rfl rfl ?_
  exact hh)
 clear k5
 obtain ⟨_, _, ⟨T133, L134, k_135, n_136⟩, -, X137, hSc144, hgr145, ⟨Lc138, hQ139, l_140, y_141, z_142, C146⟩, st143⟩ := o_callSSU X90 hx (owner := oL) (x := ⟨oV, "aggregate", "(Ljava/lang/String;Ljava/lang/String;)Ljava/lang/String;"⟩) hown38 (mvT hZ37 (wT hw 59 rfl)) (mvT hZ37 (wT hw 60 rfl)) (mvT hZ37 (wT hw 61 rfl)) (mvT hZ37 (wT hw 33 rfl)) (mvT hZ37 (wT hw 62 rfl)) (by decide) (backOfSH (W := 1) (rmAg l Z a0 hw [] a1 u1 k1 c1 a2 u2 k2 c2 T86.heap n0 Z125 F112 F113 F115 F116 hc1 F118 F119 F121 F122 hc2 O130 ci sC hc) hZ37 (wT hw 62 rfl) (wT hw 33 rfl) (by decide) (by decide) (o_EW hw) Cr129.1) (g := (mkF m 14 #[vR a1, vR a2, vL vv, .second, .unset] [.ref a2, .ref a1, .ref a65])) rfl (by rw [hml]; rfl) (argsL := [.ref a1, .ref a2]) (rest := [.ref a65]) (lenOf o_h541 rfl) rfl (o_w0 rfl) (hb hby o_h540) (fun _ _ => ⟨rfl, e132, o_l rfl, o_l rfl⟩)
 dsimp only [Pt.U, Pt.locs, Pt.cells, Pt.slots] at X137 hSc144 hgr145 l_140 y_141 z_142 st143 hQ139 C146
 subst l_140 y_141 z_142
 obtain ⟨X147, hS148, hZ149, hown150⟩ := rebS hS36 (by rw [e132]; exact hk126) X137 hSc144 hgr145 hZ37 hown38
 have Sf151 := C146.safe F100.lt Sf127
 have Sf152 := C146.safe F105.lt Sf128
 have Cr153 := Cr129.trans C146
 obtain ⟨r155, tr156, kr157, ms158, rfl, N154, K166, F159, F160, F161, F162, F163, F164, F165, -⟩ := hQ139
 have N167 := Fr.app N109 N154
 have H0168 : h0.size ≤ r155 := Nat.le_trans P131.1 F164
 have H0169 : h0.size ≤ tr156 := Nat.le_trans P131.1 F165
 have F170 := F112.keep K166
 have F171 := F113.keep K166 nin0
 have F172 := F115.keep K166 nin0
 have F173 := F116.keep K166 nin0
 have F174 := F118.keep K166
 have F175 := F119.keep K166 nin0
 have F176 := F121.keep K166 nin0
 have F177 := F122.keep K166 nin0
 have F178 := F100.keep K166
 have F179 := F101.keep K166 nin0
 have F180 := F102.keep K166 nin0
 have F181 := F103.keep K166 nin0
 have F182 := F104.keep K166 nin0
 have F183 := F105.keep K166
 have Z184 : n0 ≤ T133.heap.size := Nat.le_trans Z125 K166.1
 have hk185 := Nat.le_trans hk126 K166.1
 have O186 := O130.keep K166 all0
 have P187 : Keep h0 T133.heap [] := P131.trans K166 (fun _ q => nomatch q)
 have e188 : T133.heap = T133.heap := rfl
 have k7 : o_J p e below T133 m 17 #[vR a1, vR a2, vL vv, .second, .unset] [.ref r155, .ref a65] B_ := fun t_ hh => k6 t_ (st143.trans hh)
 clear k6 st143 X90 e132
 have ne189 : t298 ≠ r155 := Nat.ne_of_lt (Nat.lt_of_lt_of_le F104.lt F164)
 have ne190 : t298 ≠ tr156 := Nat.ne_of_lt (Nat.lt_of_lt_of_le F104.lt F165)
 have ne202 : a65 ≠ t298 := Nat.ne_of_lt (Nat.lt_of_lt_of_le A61.lt F107)
 have ne203 : a65 ≠ tr156 := Nat.ne_of_lt (Nat.lt_of_lt_of_le F100.lt F165)
 have ne204 : a65 ≠ r155 := Nat.ne_of_lt (Nat.lt_of_lt_of_le F100.lt F164)
 obtain ⟨cq205, kq206, qa207, qb208, qc209⟩ := isOf hZ149 e188 F178
 obtain ⟨_, _, ⟨T191, L192, k_193, n_194⟩, -, X195, ⟨Lc196, hQ197, l_198, y_199, z_200⟩, st201⟩ := X147.virtualBack hx (y := ⟨oB, "append", "(Ljava/lang/String;)Ljava/lang/StringBuilder;"⟩) (z := ⟨oB, "append", "(Ljava/lang/String;)Ljava/lang/StringBuilder;"⟩) hown150 (mvT hZ149 (wT hw 177 rfl)) (mvT hZ149 (wT hw 67 rfl)) (notFace_of_selects (args := #[]) (mvT hZ149 (wT hw 69 rfl))) (mvT hZ149 (wT hw 69 rfl)) (mvT hZ149 (wT hw 68 rfl)) (by decide) (backOf (W := 0) (rmSa l Z a0 hw [] a65 t298 k299 16 (List.replicate 16 (.int 0)) ([] : List Int32) r155 tr156 kr157 ms158 T133.heap n0 Z184 F178 F179 F180 F181 F182 F183 F159 F160 F161 F162 ⟨List.length_replicate, rfl⟩ (Nat.zero_le _) (Nat.le_trans (o_cap_le (B := 35) (Nat.le_trans (Nat.add_le_add (Nat.le_refl 0) (o_agg_len hc1 hc2 F163)) (o_l rfl)) (o_l rfl)) (o_l rfl)) G68 F106 ne202 (Ne.symm ne190) (Ne.symm ne189) (Ne.symm ne203) (Ne.symm ne204) O186 ci sC hc) hZ149 (wT hw 70 rfl) (wT hw 43 rfl) (by decide) (by decide)) qa207 qc209 (g := (mkF m 17 #[vR a1, vR a2, vL vv, .second, .unset] [.ref r155, .ref a65])) rfl (by rw [hml]; rfl) (Steps.refl _) (argsL := [.ref r155]) (rest := []) (lenOf o_h411 rfl) rfl (o_w0 rfl) (hb hby o_h542) (fun _ _ => ⟨rfl, e188, o_l rfl, o_l rfl⟩)
 dsimp only [Pt.U, Pt.locs, Pt.cells, Pt.slots] at X195 l_198 y_199 z_200 st201 hQ197
 subst l_198 y_199 z_200
 obtain ⟨t2211, k2212, es213, rfl, N210, K224, F214, F215, F216, F217, F218, F219, F220, F221, F222, F223, -⟩ := hQ197
 have N225 := Fr.app N167 N210
 have Sf226 := o_safe_or Sf152 F221
 have ne227 : r155 ≠ t2211 := o_ne_or (Ne.symm ne189) F159.lt F221
 have ne228 : tr156 ≠ t2211 := o_ne_or (Ne.symm ne190) F162.lt F221
 have H0229 : h0.size ≤ t2211 := o_ge_or H0110 P187.1 F221
 have F230 := F178.keep K224
 have F231 := F183.keep K224
 have F232 := F159.keep K224
 have F233 := F160.keep K224 (ninS (Ne.symm ne204) (ninS (Ne.symm ne189) nin0))
 have F234 := F161.keep K224 (ninS (Ne.symm ne204) (ninS (Ne.symm ne189) nin0))
 have F235 := F162.keep K224 (ninS (Ne.symm ne203) (ninS (Ne.symm ne190) nin0))
 have Z236 : n0 ≤ T191.heap.size := Nat.le_trans Z184 K224.1
 have hk237 := Nat.le_trans (Nat.le_refl T133.heap.size) K224.1
 have Sf238 := Safe.keep K224 (allS Sf151 (allS Sf152 all0)) Cr153.1 Sf151
 have Sf239 := Safe.keep K224 (allS Sf151 (allS Sf152 all0)) Cr153.1 Sf152
 have Sf240 := Safe.keep K224 (allS Sf151 (allS Sf152 all0)) Cr153.1 Sf226
 have Cr241 := Cr153.trans (CHr.keep K224 (allS Sf151 (allS Sf152 all0)) Cr153.1)
 have O242 := O186.keep K224 (allS G68 (allS F106 all0))
 have P243 : Keep h0 T191.heap [] := P187.trans K224 (allS (P := fun x => x ∈ [] ∨ h0.size ≤ x) (Or.inr H067) (allS (P := fun x => x ∈ [] ∨ h0.size ≤ x) (Or.inr H0110) all0))
 have e244 : T191.heap = T191.heap := rfl
 have k8 : o_J p e below T191 m 20 #[vR a1, vR a2, vL vv, .second, .unset] [.ref a65] B_ := fun t_ hh => k7 t_ (st201.trans hh)
 clear k7 st201 X147 e188
 obtain ⟨us245, eu246⟩ : ∃ z, z = ([] : List Int32) ++ ms158 := ⟨_, rfl⟩
 rw [← eu246] at F217 F220
 have hl247 : List.length us245 ≤ 35 := by rw [eu246, List.length_append]; exact Nat.add_le_add (Nat.le_refl 0) (o_agg_len hc1 hc2 F163)
 obtain ⟨cp249, ec250⟩ : ∃ z, z = o_cap 16 (List.length ([] : List Int32) + List.length ms158) := ⟨_, rfl⟩
 rw [← ec250] at F218 F220
 have hb251 : cp249 ≤ 35 := by rw [ec250]; exact o_cap_le (Nat.le_trans (Nat.add_le_add (Nat.le_refl 0) (o_agg_len hc1 hc2 F163)) (o_l rfl)) (o_l rfl)
 have hn248 : List.length us245 ≤ cp249 := by rw [eu246, List.length_append, ec250]; exact o_cap_ge
 obtain ⟨a252, T253, h254, k_255, b256, kb257, X258, e259, E260, hS261, hk262, hZ263, hown264, E265, F266, F267, F268, l269, l270, C271, Lt272, ne273, st274⟩ := ldcCH X195 hx hZ149 hown150 (wT hw 178 rfl) (o_strAtoms hw) e244 hS148 hk237 (o_EW hw) (List.mem_of_getElem? (i := 4) rfl) Cr241.1 (vs := [(.int 32), (.int 100), (.int 111), (.int 101), (.int 115), (.int 32), (.int 110), (.int 111), (.int 116), (.int 32), (.int 101), (.int 120), (.int 105), (.int 115), (.int 116), (.int 58), (.int 32), (.int 105), (.int 116), (.int 32), (.int 119), (.int 97), (.int 115), (.int 32), (.int 110), (.int 101), (.int 118), (.int 101), (.int 114), (.int 32), (.int 99), (.int 114), (.int 101), (.int 97), (.int 116), (.int 101), (.int 100), (.int 59), (.int 32)]) (z := (39 : Int32)) ⟨by decide, rfl⟩ (by decide) rfl (g := (mkF m 20 #[vR a1, vR a2, vL vv, .second, .unset] [.ref a65])) rfl (hb hby o_h543) (n := 156) (by decide) (by decide) (by decide) (by decide)
 have Sf275 := C271.safe F214.lt Sf238
 have ne276 := (ne273 _ Sf275).1
 have ne277 := (ne273 _ Sf275).2
 have Sf278 := C271.safe F219.lt Sf240
 have ne279 := (ne273 _ Sf278).1
 have ne280 := (ne273 _ Sf278).2
 have F281 := Exa.ext (h' := h254) E260 F214
 have F282 := Fld.ext (h' := h254) E260 F215
 have F283 := Fld.ext (h' := h254) E260 F216
 have F284 := Fld.ext (h' := h254) E260 F217
 have F285 := F218.ext E260
 have F286 := Exa.ext (h' := h254) E260 F219
 have Z287 : n0 ≤ h254.size := Nat.le_trans Z236 E260.1
 have O288 := O242.ext E260
 have P289 : Keep h0 h254 [] := P243.ext E260
 have Cr290 := Cr241.trans C271
 have k9 : o_J p e below T253 m 22 #[vR a1, vR a2, vL vv, .second, .unset] [.ref a252, .ref a65] B_ := fun t_ hh => k8 t_ (st274 t_ hh)
 clear k8 st274 X195 e244
 have F291 := o_lit3_arv F268
 obtain ⟨cq303, kq304, qa305, qb306, qc307⟩ := isOf hZ263 e259 F281
 obtain ⟨_, _, ⟨T292, L293, k_294, n_295⟩, -, X296, ⟨Lc297, hQ298, l_299, y_300, z_301⟩, st302⟩ := X258.virtualBack hx (y := ⟨oB, "append", "(Ljava/lang/String;)Ljava/lang/StringBuilder;"⟩) (z := ⟨oB, "append", "(Ljava/lang/String;)Ljava/lang/StringBuilder;"⟩) hown264 (mvT hZ263 (wT hw 177 rfl)) (mvT hZ263 (wT hw 67 rfl)) (notFace_of_selects (args := #[]) (mvT hZ263 (wT hw 69 rfl))) (mvT hZ263 (wT hw 69 rfl)) (mvT hZ263 (wT hw 68 rfl)) (by decide) (backOf (W := 0) (rmSa l Z a0 hw [] a65 t2211 k2212 cp249 es213 us245 a252 b256 kb257 o_lit3 h254 n0 Z287 F281 F282 F283 F284 F285 F286 E265 F267 F266 F291 F220 hn248 (Nat.le_trans (o_cap_le (B := 74) (Nat.le_trans (Nat.add_le_add hl247 (Nat.le_of_eq o_lit3_len)) (o_l rfl)) (o_dbl hb251 (o_l rfl))) (o_l rfl)) G68 F222 F223 (Ne.symm ne280) (Ne.symm ne279) (Ne.symm ne277) (Ne.symm ne276) O288 ci sC hc) hZ263 (wT hw 70 rfl) (wT hw 43 rfl) (by decide) (by decide)) qa305 qc307 (g := (mkF m 22 #[vR a1, vR a2, vL vv, .second, .unset] [.ref a252, .ref a65])) rfl (by rw [hml]; rfl) (Steps.refl _) (argsL := [.ref a252]) (rest := []) (lenOf o_h411 rfl) rfl (o_w0 rfl) (hb hby o_h544) (fun _ _ => ⟨rfl, e259, o_l rfl, o_l rfl⟩)
 dsimp only [Pt.U, Pt.locs, Pt.cells, Pt.slots] at X296 l_299 y_300 z_301 st302 hQ298
 subst l_299 y_300 z_301
 obtain ⟨t2309, k2310, es311, rfl, N308, K322, F312, F313, F314, F315, F316, F317, F318, F319, F320, F321, -⟩ := hQ298
 have N323 := Fr.app N225 N308
 have Sf324 := o_safe_or Sf278 F319
 have ne325 : b256 ≠ t2309 := o_ne_or (Ne.symm ne280) F291.lt F319
 have ne326 : a252 ≠ t2309 := o_ne_or (Ne.symm ne279) E265.lt F319
 have H0327 : h0.size ≤ t2309 := o_ge_or H0229 P289.1 F319
 have F328 := F281.keep K322
 have F329 := F286.keep K322
 have F330 := F291.keep K322 (ninS (Ne.symm ne277) (ninS (Ne.symm ne280) nin0))
 have F331 := E265.keep K322
 have F332 := F267.keep K322 (ninS (Ne.symm ne276) (ninS (Ne.symm ne279) nin0))
 have F333 := F266.keep K322 (ninS (Ne.symm ne276) (ninS (Ne.symm ne279) nin0))
 have Z334 : n0 ≤ T292.heap.size := Nat.le_trans Z287 K322.1
 have hk335 := Nat.le_trans hk262 K322.1
 have Sf336 := Safe.keep K322 (allS Sf275 (allS Sf278 all0)) Cr290.1 Sf275
 have Sf337 := Safe.keep K322 (allS Sf275 (allS Sf278 all0)) Cr290.1 Sf278
 have Sf338 := Safe.keep K322 (allS Sf275 (allS Sf278 all0)) Cr290.1 Sf324
 have Cr339 := Cr290.trans (CHr.keep K322 (allS Sf275 (allS Sf278 all0)) Cr290.1)
 have O340 := O288.keep K322 (allS G68 (allS F222 all0))
 have P341 : Keep h0 T292.heap [] := P289.trans K322 (allS (P := fun x => x ∈ [] ∨ h0.size ≤ x) (Or.inr H067) (allS (P := fun x => x ∈ [] ∨ h0.size ≤ x) (Or.inr H0229) all0))
 have e342 : T292.heap = T292.heap := rfl
 have k10 : o_J p e below T292 m 25 #[vR a1, vR a2, vL vv, .second, .unset] [.ref a65] B_ := fun t_ hh => k9 t_ (st302.trans hh)
 clear k9 st302 X258 e259
 obtain ⟨us343, eu344⟩ : ∃ z, z = us245 ++ o_lit3 := ⟨_, rfl⟩
 rw [← eu344] at F315 F318
 have hl345 : List.length us343 ≤ 74 := by rw [eu344, List.length_append]; exact Nat.add_le_add hl247 (Nat.le_of_eq o_lit3_len)
 obtain ⟨cp347, ec348⟩ : ∃ z, z = o_cap cp249 (List.length us245 + List.length o_lit3) := ⟨_, rfl⟩
 rw [← ec348] at F316 F318
 have hb349 : cp347 ≤ 74 := by rw [ec348]; exact o_cap_le (Nat.le_trans (Nat.add_le_add hl247 (Nat.le_of_eq o_lit3_len)) (o_l rfl)) (o_dbl hb251 (o_l rfl))
 have hn346 : List.length us343 ≤ cp347 := by rw [eu344, List.length_append, ec348]; exact o_cap_ge
 have k11 : o_J p e below T292 m 26 #[vR a1, vR a2, vL vv, .second, .unset] [.long vv, .ref a65] B_ := fun t_ hh => k10 t_ (by
  refine XS.lloadN X296.here hx rfl (hb hby o_h545) rfl ?_
  exact hh)
 clear k10
 obtain ⟨_, _, ⟨T350, L351, k_352, n_353⟩, -, X354, hSc361, hgr362, ⟨Lc355, hQ356, l_357, y_358, z_359, C363⟩, st360⟩ := callSS X296 hx (y := ⟨oV, "expectation", "(J)Ljava/lang/String;"⟩) hown264 (mvT hZ263 (wT hw 179 rfl)) (mvT hZ263 (wT hw 180 rfl)) (mvT hZ263 (wT hw 28 rfl)) (mvT hZ263 (wT hw 181 rfl)) (by decide) (backOfSH (W := 1) (rmEx l Z a0 hw [] vv T292.heap n0 Z334 O340 ci sC hc hdg) hZ263 (wT hw 181 rfl) (wT hw 28 rfl) (by decide) (by decide) (o_EW hw) Cr339.1) (g := (mkF m 26 #[vR a1, vR a2, vL vv, .second, .unset] [.long vv, .ref a65])) rfl (by rw [hml]; rfl) (argsL := [.long vv]) (rest := [.ref a65]) (lenOf o_h547 rfl) rfl (o_w0 rfl) (hb hby o_h546) (fun _ _ => ⟨rfl, e342, o_l rfl, o_l rfl⟩)
 dsimp only [Pt.U, Pt.locs, Pt.cells, Pt.slots] at X354 hSc361 hgr362 l_357 y_358 z_359 st360 hQ356 C363
 subst l_357 y_358 z_359
 obtain ⟨X364, hS365, hZ366, hown367⟩ := rebS hS261 (by rw [e342]; exact hk335) X354 hSc361 hgr362 hZ263 hown264
 have Sf368 := C363.safe F312.lt Sf336
 have Sf369 := C363.safe F317.lt Sf338
 have Cr370 := Cr339.trans C363
 obtain ⟨r372, tr373, kr374, ms375, rfl, N371, K381, F376, F377, F378, F379, F380, -⟩ := hQ356
 have N382 := Fr.app N323 N371
 have F383 := F312.keep K381
 have F384 := F313.keep K381 nin0
 have F385 := F314.keep K381 nin0
 have F386 := F315.keep K381 nin0
 have F387 := F316.keep K381 nin0
 have F388 := F317.keep K381
 have Z389 : n0 ≤ T350.heap.size := Nat.le_trans Z334 K381.1
 have hk390 := Nat.le_trans hk335 K381.1
 have O391 := O340.keep K381 all0
 have P392 : Keep h0 T350.heap [] := P341.trans K381 (fun _ q => nomatch q)
 have e393 : T350.heap = T350.heap := rfl
 have k12 : o_J p e below T350 m 29 #[vR a1, vR a2, vL vv, .second, .unset] [.ref r372, .ref a65] B_ := fun t_ hh => k11 t_ (st360.trans hh)
 clear k11 st360 X296 e342
 have ne394 : r372 ≠ a65 := Exa.ne F376 F383 (by decide)
 have ne395 : r372 ≠ t2309 := Exa.ne F376 F388 (by decide)
 have ne396 : a65 ≠ tr373 := Exa.neArv F383 F379 (wT hw 42 rfl)
 have ne397 : tr373 ≠ t2309 := o_arvne F379 F387 (o_exp_len F380) (Nat.le_trans (o_len70 F163 eu246 eu344) hn346) (Nat.le_trans hb349 (o_l rfl))
 obtain ⟨cq409, kq410, qa411, qb412, qc413⟩ := isOf hZ366 e393 F383
 obtain ⟨_, _, ⟨T398, L399, k_400, n_401⟩, -, X402, ⟨Lc403, hQ404, l_405, y_406, z_407⟩, st408⟩ := X364.virtualBack hx (y := ⟨oB, "append", "(Ljava/lang/String;)Ljava/lang/StringBuilder;"⟩) (z := ⟨oB, "append", "(Ljava/lang/String;)Ljava/lang/StringBuilder;"⟩) hown367 (mvT hZ366 (wT hw 177 rfl)) (mvT hZ366 (wT hw 67 rfl)) (notFace_of_selects (args := #[]) (mvT hZ366 (wT hw 69 rfl))) (mvT hZ366 (wT hw 69 rfl)) (mvT hZ366 (wT hw 68 rfl)) (by decide) (backOf (W := 0) (rmSa l Z a0 hw [] a65 t2309 k2310 cp347 es311 us343 r372 tr373 kr374 ms375 T350.heap n0 Z389 F383 F384 F385 F386 F387 F388 F376 F377 F378 F379 F318 hn346 (Nat.le_trans (o_cap_le (B := 150) (Nat.le_trans (Nat.add_le_add hl345 (o_exp_len F380)) (o_l rfl)) (o_dbl hb349 (o_l rfl))) (o_l rfl)) G68 F320 F321 ne397 ne395 (Ne.symm ne396) ne394 O391 ci sC hc) hZ366 (wT hw 70 rfl) (wT hw 43 rfl) (by decide) (by decide)) qa411 qc413 (g := (mkF m 29 #[vR a1, vR a2, vL vv, .second, .unset] [.ref r372, .ref a65])) rfl (by rw [hml]; rfl) (Steps.refl _) (argsL := [.ref r372]) (rest := []) (lenOf o_h411 rfl) rfl (o_w0 rfl) (hb hby o_h548) (fun _ _ => ⟨rfl, e393, o_l rfl, o_l rfl⟩)
 dsimp only [Pt.U, Pt.locs, Pt.cells, Pt.slots] at X402 l_405 y_406 z_407 st408 hQ404
 subst l_405 y_406 z_407
 obtain ⟨t2415, k2416, es417, rfl, N414, K428, F418, F419, F420, F421, F422, F423, F424, F425, F426, F427, -⟩ := hQ404
 have N429 := Fr.app N382 N414
 have Sf430 := o_safe_or Sf369 F425
 have ne431 : r372 ≠ t2415 := o_ne_or ne395 F376.lt F425
 have ne432 : tr373 ≠ t2415 := o_ne_or ne397 F379.lt F425
 have H0433 : h0.size ≤ t2415 := o_ge_or H0327 P392.1 F425
 have F434 := F383.keep K428
 have F435 := F388.keep K428
 have F436 := F376.keep K428
 have F437 := F377.keep K428 (ninS ne394 (ninS ne395 nin0))
 have F438 := F378.keep K428 (ninS ne394 (ninS ne395 nin0))
 have F439 := F379.keep K428 (ninS (Ne.symm ne396) (ninS ne397 nin0))
 have Z440 : n0 ≤ T398.heap.size := Nat.le_trans Z389 K428.1
 have hk441 := Nat.le_trans (Nat.le_refl T350.heap.size) K428.1
 have Sf442 := Safe.keep K428 (allS Sf368 (allS Sf369 all0)) Cr370.1 Sf368
 have Sf443 := Safe.keep K428 (allS Sf368 (allS Sf369 all0)) Cr370.1 Sf369
 have Sf444 := Safe.keep K428 (allS Sf368 (allS Sf369 all0)) Cr370.1 Sf430
 have Cr445 := Cr370.trans (CHr.keep K428 (allS Sf368 (allS Sf369 all0)) Cr370.1)
 have O446 := O391.keep K428 (allS G68 (allS F320 all0))
 have P447 : Keep h0 T398.heap [] := P392.trans K428 (allS (P := fun x => x ∈ [] ∨ h0.size ≤ x) (Or.inr H067) (allS (P := fun x => x ∈ [] ∨ h0.size ≤ x) (Or.inr H0327) all0))
 have e448 : T398.heap = T398.heap := rfl
 have k13 : o_J p e below T398 m 32 #[vR a1, vR a2, vL vv, .second, .unset] [.ref a65] B_ := fun t_ hh => k12 t_ (st408.trans hh)
 clear k12 st408 X364 e393
 obtain ⟨us449, eu450⟩ : ∃ z, z = us343 ++ ms375 := ⟨_, rfl⟩
 rw [← eu450] at F421 F424
 have hl451 : List.length us449 ≤ 119 := by rw [eu450, List.length_append]; exact Nat.add_le_add hl345 (o_exp_len F380)
 obtain ⟨cp453, ec454⟩ : ∃ z, z = o_cap cp347 (List.length us343 + List.length ms375) := ⟨_, rfl⟩
 rw [← ec454] at F422 F424
 have hb455 : cp453 ≤ 150 := by rw [ec454]; exact o_cap_le (Nat.le_trans (Nat.add_le_add hl345 (o_exp_len F380)) (o_l rfl)) (o_dbl hb349 (o_l rfl))
 have hn452 : List.length us449 ≤ cp453 := by rw [eu450, List.length_append, ec454]; exact o_cap_ge
 obtain ⟨cq467, kq468, qa469, qb470, qc471⟩ := isOf hZ366 e448 F418
 obtain ⟨_, _, ⟨T456, L457, k_458, n_459⟩, -, X460, ⟨Lc461, hQ462, l_463, y_464, z_465⟩, st466⟩ := X402.virtualBack hx (y := ⟨oB, "toString", "()Ljava/lang/String;"⟩) (z := ⟨oB, "toString", "()Ljava/lang/String;"⟩) hown367 (mvT hZ366 (wT hw 204 rfl)) (mvT hZ366 (wT hw 139 rfl)) (notFace_of_selects (args := #[]) (mvT hZ366 (wT hw 141 rfl))) (mvT hZ366 (wT hw 141 rfl)) (mvT hZ366 (wT hw 140 rfl)) (by decide) (backOf (W := 0) (rmTs l Z a0 hw [] a65 t2415 k2416 cp453 es417 us449 T398.heap n0 Z440 F418 F419 F420 F421 F422 F423 F424 hn452 (Nat.le_trans hb455 (o_l rfl)) O446 ci sC hc) hZ366 (wT hw 142 rfl) (wT hw 43 rfl) (by decide) (by decide)) qa469 qc471 (g := (mkF m 32 #[vR a1, vR a2, vL vv, .second, .unset] [.ref a65])) rfl (by rw [hml]; rfl) (Steps.refl _) (argsL := []) (rest := []) (lenOf o_h419 rfl) rfl (o_w0 rfl) (hb hby o_h549) (fun _ _ => ⟨rfl, e448, o_l rfl, o_l rfl⟩)
 dsimp only [Pt.U, Pt.locs, Pt.cells, Pt.slots] at X460 l_463 y_464 z_465 st466 hQ462
 subst l_463 y_464 z_465
 obtain ⟨r473, t2474, k2475, rfl, N472, K484, F476, F477, F478, F479, F480, F481, F482, F483, -⟩ := hQ462
 have N485 := Fr.app N429 N472
 have H0486 : h0.size ≤ r473 := Nat.le_trans P447.1 F482
 have H0487 : h0.size ≤ t2474 := Nat.le_trans P447.1 F483
 have Sf488 := o_safeNew Cr445.1 F482
 have Sf489 := o_safeNew Cr445.1 F483
 have F490 := F418.keep K484
 have F491 := F419.keep K484 nin0
 have F492 := F420.keep K484 nin0
 have F493 := F421.keep K484 nin0
 have F494 := F422.keep K484 nin0
 have F495 := F423.keep K484
 have Z496 : n0 ≤ T456.heap.size := Nat.le_trans Z440 K484.1
 have hk497 := Nat.le_trans hk441 K484.1
 have Sf498 := Safe.keep K484 all0 Cr445.1 Sf442
 have Sf499 := Safe.keep K484 all0 Cr445.1 Sf444
 have Sf500 := Safe.keep K484 all0 Cr445.1 Sf488
 have Sf501 := Safe.keep K484 all0 Cr445.1 Sf489
 have Cr502 := Cr445.trans (CHr.keep K484 all0 Cr445.1)
 have O503 := O446.keep K484 all0
 have P504 : Keep h0 T456.heap [] := P447.trans K484 (fun _ q => nomatch q)
 have e505 : T456.heap = T456.heap := rfl
 have k14 : o_J p e below T456 m 35 #[vR a1, vR a2, vL vv, .second, .unset] [.ref r473] B_ := fun t_ hh => k13 t_ (st466.trans hh)
 clear k13 st466 X402 e448
 have k15 : o_J p e below T456 m 37 #[vR a1, vR a2, vL vv, .second, vR r473] [] B_ := fun t_ hh => k14 t_ (by
  refine XS.astore X460.here hx rfl (hb hby o_h550) rfl rfl (l' := #[vR a1, vR a2, vL vv, .second, vR r473]) rfl ?_
  exact hh)
 clear k14
 obtain ⟨T506, h507, X508, e509, E510, A511, D512, U514, st513⟩ := newO X460 hx hZ366 hown367 (wT hw 205 rfl) (wT hw 206 rfl) (wT hw 28 rfl) e505 (g := (mkF m 37 #[vR a1, vR a2, vL vv, .second, vR r473] [])) rfl (hb hby o_h551) (by decide) (by decide)
 obtain ⟨a515, g516⟩ : ∃ z, z = T456.heap.size := ⟨_, rfl⟩
 rw [← g516] at A511 D512 U514 st513
 have H0517 : h0.size ≤ a515 := Nat.le_trans P504.1 (Nat.le_of_eq g516.symm)
 have G518 : n0 ≤ a515 := Nat.le_trans Z496 (Nat.le_of_eq g516.symm)
 have hk519 := Nat.le_trans hk497 E510.1
 have Sf520 := Safe.ext E510 Cr502.1 (Safe.new (x := a515) (Nat.le_of_eq g516.symm))
 have F521 := Exa.ext (h' := h507) E510 F476
 have F522 := Fld.ext (h' := h507) E510 F477
 have F523 := Fld.ext (h' := h507) E510 F478
 have F524 := F479.ext E510
 have Z525 : n0 ≤ h507.size := Nat.le_trans Z496 E510.1
 have O526 := O503.ext E510
 have P527 : Keep h0 h507 [] := P504.ext E510
 have Sf528 := Safe.ext E510 Cr502.1 Sf500
 have Sf529 := Safe.ext E510 Cr502.1 Sf501
 have Cr530 := Cr502.trans (CHr.ext E510 Cr502.1)
 have F531 : Fld Z h507 a515 oT "cause" "Ljava/lang/Throwable;" .null := D512 (Or.inl (wT hw 233 rfl)) (ty := .object oT) (by decide)
 have F532 : Fld Z h507 a515 oT "stackTrace" "[Ljava/lang/StackTraceElement;" .null := D512 (Or.inl (wT hw 236 rfl)) (ty := .array (.object "java/lang/StackTraceElement")) (by decide)
 have F533 : Fld Z h507 a515 oT "suppressedExceptions" "Ljava/util/List;" .null := D512 (Or.inl (wT hw 239 rfl)) (ty := .object "java/util/List") (by decide)
 have F534 : Fld Z h507 a515 oT "detailMessage" "Ljava/lang/String;" .null := D512 (Or.inl (wT hw 263 rfl)) (ty := .object oS) (by decide)
 have F535 : Fld Z h507 a515 oT "backtrace" "Ljava/lang/Object;" .null := D512 (Or.inl (wT hw 264 rfl)) (ty := .object "java/lang/Object") (by decide)
 have F536 : Fld Z h507 a515 oT "depth" "I" (.int 0) := D512 (Or.inl (wT hw 265 rfl)) (ty := .int) (by decide)
 have F537 : Fld Z h507 a515 oV "type" "Ljava/lang/String;" .null := D512 (Or.inr (wT hw 269 rfl)) (ty := .object oS) (by decide)
 have F538 : Fld Z h507 a515 oV "id" "Ljava/lang/String;" .null := D512 (Or.inr (wT hw 271 rfl)) (ty := .object oS) (by decide)
 have F539 : Fld Z h507 a515 oV "expectedVersion" "J" (.long (0 : Int64)) := D512 (Or.inr (wT hw 273 rfl)) (ty := .long) (by decide)
 have F540 : Fld Z h507 a515 oV "currentVersion" "Ljava/lang/Long;" .null := D512 (Or.inr (wT hw 275 rfl)) (ty := .object "java/lang/Long") (by decide)
 have F541 : Fld Z h507 a515 oV "changedBy" "Ljava/lang/String;" .null := D512 (Or.inr (wT hw 277 rfl)) (ty := .object oS) (by decide)
 have F542 : Fld Z h507 a515 oV "changedAt" "Ljava/time/Instant;" .null := D512 (Or.inr (wT hw 279 rfl)) (ty := .object "java/time/Instant") (by decide)
 have F543 : Fld Z h507 a515 oV "deleted" "Z" (.int 0) := D512 (Or.inr (wT hw 281 rfl)) (ty := .boolean) (by decide)
 have k16 : o_J p e below T506 m 40 #[vR a1, vR a2, vL vv, .second, vR r473] [.ref a515] B_ := fun t_ hh => k15 t_ (st513 t_ hh)
 clear k15 st513 X460 e505
 have k17 : o_J p e below T506 m 50 #[vR a1, vR a2, vL vv, .second, vR r473] [(.int 0), .null, .null, .null, .long vv, .ref a2, .ref a1, .ref r473, .ref a515, .ref a515] B_ := fun t_ hh => k16 t_ (by
  refine XS.dup X508.here hx rfl (hb hby o_h552) rfl rfl ?_
  refine XS.aload X508.here hx rfl (hb hby o_h553) rfl rfl ?_
  refine XS.aloadN X508.here hx rfl (hb hby o_h554) rfl rfl ?_
  refine XS.aloadN X508.here hx rfl (hb hby o_h555) rfl rfl ?_
  refine XS.lloadN X508.here hx rfl (hb hby o_h556) rfl ?_
  refine XS.aconstNull X508.here hx rfl (hb hby o_h557) ?_
  refine XS.aconstNull X508.here hx rfl (hb hby o_h558) ?_
  refine XS.aconstNull X508.here hx rfl (hb hby o_h559) ?_
  refine XS.iconst X508.here hx rfl (hb hby o_h560) ?_
  exact hh)
 clear k16
 obtain ⟨_, _, ⟨T544, L545, k_546, n_547⟩, -, X548, ⟨Lc549, hQ550, l_551, y_552, z_553⟩, st554⟩ := X508.specialBack hx (y := ⟨oV, "<init>", "(Ljava/lang/String;Ljava/lang/String;Ljava/lang/String;JLjava/lang/Long;Ljava/lang/String;Ljava/time/Instant;Z)V"⟩) rfl hown367 (mvT hZ366 (wT hw 207 rfl)) (mvT hZ366 (wT hw 208 rfl)) (mvT hZ366 (wT hw 209 rfl)) (by decide) (backOfKL (W := 1) (rmVi l Z a0 hw [] a515 r473 a1 a2 vv h507 n0 Z525 A511 U514 F535 F534 F537 F538 F539 F540 F541 F542 F543 G518 O526 hst hr2 ) hZ366 (wT hw 209 rfl) (wT hw 28 rfl) (by decide) (by decide) (Vm.MethodsKnown.alikeC hZ366.alike hTK) (Vm.FramesKnown.alikeC hZ366.alike hBl)) (g := (mkF m 50 #[vR a1, vR a2, vL vv, .second, vR r473] [(.int 0), .null, .null, .null, .long vv, .ref a2, .ref a1, .ref r473, .ref a515, .ref a515])) rfl (by rw [hml]; rfl) (Steps.refl _) (a := a515) (argsL := [.ref r473, .ref a1, .ref a2, .long vv, .null, .null, .null, (.int 0)]) (rest := [.ref a515]) (lenOf o_h562 rfl) rfl (o_w0 rfl) (hb hby o_h561) (fun _ _ => ⟨rfl, e509, o_l rfl, o_l rfl⟩)
 dsimp only [Pt.U, Pt.locs, Pt.cells, Pt.slots] at X548 l_551 y_552 z_553 st554 hQ550
 subst l_551 y_552 z_553
 obtain ⟨rfl, N555, K565, F556, F557, F558, F559, F560, F561, F562, F563, F564, -⟩ := hQ550
 have N566 := Fr.app N485 N555
 have F567 := F521.keep K565
 have ne569 : r473 ≠ a515 := by rw [g516]; exact Nat.ne_of_lt F476.lt
 have F568 := F522.keep K565 (ninS ne569 nin0)
 have F570 := F523.keep K565 (ninS ne569 nin0)
 have ne572 : t2474 ≠ a515 := by rw [g516]; exact Nat.ne_of_lt F479.lt
 have F571 := F524.keep K565 (ninS ne572 nin0)
 have F573 := A511.keep K565
 have Z575 : n0 ≤ T544.heap.size := Nat.le_trans Z525 K565.1
 have hk576 := Nat.le_trans hk519 K565.1
 have Sf577 := Safe.keep K565 (allS Sf520 all0) Cr530.1 Sf528
 have Sf578 := Safe.keep K565 (allS Sf520 all0) Cr530.1 Sf529
 have Sf579 := Safe.keep K565 (allS Sf520 all0) Cr530.1 Sf520
 have Cr580 := Cr530.trans (CHr.keep K565 (allS Sf520 all0) Cr530.1)
 have O581 := O526.keep K565 (allS G518 all0)
 have P582 : Keep h0 T544.heap [] := P527.trans K565 (allS (P := fun x => x ∈ [] ∨ h0.size ≤ x) (Or.inr H0517) all0)
 have e583 : T544.heap = T544.heap := rfl
 have k18 : o_J p e below T544 m 53 #[vR a1, vR a2, vL vv, .second, vR r473] [.ref a515] B_ := fun t_ hh => k17 t_ (st554.trans hh)
 clear k17 st554 X508 e509
 obtain ⟨fs, hr, hrun, hended, hEnd⟩ := X548.leaveW hS365 (by rw [e583]; exact hk576) (v := some (.ref a515)) (fun h => by rw [Bd.returns] at h; cases h)
 refine ⟨_, _, (o_from hB_ (k18 _ (retOut X548 hx (t := .object oV) Bd.returns rfl (Or.inr (Or.inr (Or.inr (Or.inr ⟨rfl, rfl, rfl⟩)))) (hb hby o_h563) hr))), hrun, hended, _, _, rfl, ?_, ?_, hEnd.1, hEnd.2.1, hEnd.2.2.1, hEnd.2.2.2.mono (o_l rfl) (o_l rfl)⟩
 rotate_left
 · show CHr Z o_EL s.vm s.heap T544.vm T544.heap
   rw [hh, e583]
   exact Cr580.trans (CHv.at X548 hZ366 (o_EW hw) Cr580.1)
 show Q_rmNv Z a1 u1 k1 c1 a2 u2 k2 c2 vv h0 n0 _ T544.heap _
 rw [e583]
 exact ⟨a515, r473, t2474, k2475, us449, rfl, N566, P582, F556, F557, F558, F559, F560, F561, F562, F563, F564, F567, F568, F570, F571, ⟨ms375, F380, by rw [eu450, eu344, eu246, List.nil_append, F163]⟩, trivial⟩
def Q_rmTy (Z : State) (ex : Addr) (a1 : Addr) (h0 : Heap) (n0 : Nat) (v : Option Value) (h : Heap) (L : List Loc) : Prop := v = some (.ref a1) ∧ Fr n0 L ∧ h = h0
theorem o_h564 : decode prog_14_method_7_code 0 = .ok (.aload_n 0, 1) := by decide +kernel
theorem o_h565 : decode prog_14_method_7_code 1 = .ok (.getfield 7, 3) := by decide +kernel
theorem o_h566 : decode prog_14_method_7_code 4 = .ok (.areturn, 1) := by decide +kernel
theorem rmTy (l : Launch) (Z : State) (a0 : Array Value) (hw : ∀ d ∈ tables_1, d.before a0 Z = true) (ws : List Jvm.Cond) (ex : Addr) (a1 : Addr) (h0 : Heap) (n0 : Nat) (Z0 : n0 ≤ h0.size) (f0_ : Fld Z h0 ex oV "type" "Ljava/lang/String;" (.ref a1))  :
    o_Met l (⟨oV, "type", "()Ljava/lang/String;"⟩ : MethodName) prog_14_method_7_code 1 (some (.object oS)) ws (rO 0 0 0 0) #[.ref ex] Z h0 (Q_rmTy Z ex a1 h0 n0) := by
 refine MetFree.of_bodySF (plainFor_of_name o_h456) hisR ?_
 intro p e s m args below meth c s₁ Bd hml0 hP hK
 obtain ⟨rfl, hZ, hh⟩ := hP
 have hx := Bd.exec
 have hby := Bd.bytes
 have hml : c.maxLocals = 1 := hml0
 have hown : s.vm.findClass oV = some m.cls := findClass_of_methodNamed Bd.named
 have hnm := (name_of_methodNamed Bd.named Bd.method).1
 have X0 : Stand p l e (rO 0 0 0 0) s m #[.ref ex] below meth c s₁ [] 0 0 := Stand.of_body Bd
 have e0 : s₁.heap = h0 := by rw [← hh, Bd.state]; rfl
 have N0 := Fr.nil n0
 obtain ⟨B_, hB_⟩ : ∃ z, z = s₁.setTop (entryFrame m #[.ref ex] 1) := ⟨_, rfl⟩
 have k0 : o_K p e below (s₁.setTop (mkF m 0 #[.val (.ref ex)] [])) B_ := by rw [hB_]; exact fun t k => castTop (by clear k; first | (simp [entryFrame, mkF, argsToLocals, Value.category, maxLocals]; done) | rfl) k
 have k1 : o_J p e below s₁ m 1 #[vR ex] [.ref ex] B_ := fun t_ hh => k0 t_ (by
  refine XS.aloadN X0.here hx rfl (hb hby o_h564) rfl rfl ?_
  exact hh)
 obtain ⟨T21, X22, e23, st24⟩ := getF X0 hx hZ hown (host := "") (Or.inl (wT hw 268 rfl)) Via.refl e0 f0_ (g := (mkF m 1 #[vR ex] [.ref ex])) rfl rfl (hb hby o_h565)
 have k2 : o_J p e below T21 m 4 #[vR ex] [.ref a1] B_ := fun t_ hh => k1 t_ (st24 t_ hh)
 clear k1 st24
 obtain ⟨fs, hr, hrun, hended, hW, hsame⟩ := X22.leave (v := some (.ref a1)) (fun h => by rw [Bd.returns] at h; cases h)
 refine ⟨_, _, (o_from hB_ (k2 _ (retOut X22 hx (t := .object oS) Bd.returns rfl (Or.inr (Or.inr (Or.inr (Or.inr ⟨rfl, rfl, rfl⟩)))) (hb hby o_h566) hr))), hrun, hended, _, _, rfl, ?_, ⟨_, rfl⟩, hW, hsame.mono (o_l rfl) (o_l rfl)⟩
 show Q_rmTy Z ex a1 h0 n0 _ T21.heap _
 rw [e23]
 exact ⟨rfl, N0, rfl⟩
def Q_rmId (Z : State) (ex : Addr) (a1 : Addr) (h0 : Heap) (n0 : Nat) (v : Option Value) (h : Heap) (L : List Loc) : Prop := v = some (.ref a1) ∧ Fr n0 L ∧ h = h0
theorem o_h567 : decode prog_14_method_8_code 0 = .ok (.aload_n 0, 1) := by decide +kernel
theorem o_h568 : decode prog_14_method_8_code 1 = .ok (.getfield 13, 3) := by decide +kernel
theorem o_h569 : decode prog_14_method_8_code 4 = .ok (.areturn, 1) := by decide +kernel
theorem rmId (l : Launch) (Z : State) (a0 : Array Value) (hw : ∀ d ∈ tables_1, d.before a0 Z = true) (ws : List Jvm.Cond) (ex : Addr) (a1 : Addr) (h0 : Heap) (n0 : Nat) (Z0 : n0 ≤ h0.size) (f0_ : Fld Z h0 ex oV "id" "Ljava/lang/String;" (.ref a1))  :
    o_Met l (⟨oV, "id", "()Ljava/lang/String;"⟩ : MethodName) prog_14_method_8_code 1 (some (.object oS)) ws (rO 0 0 0 0) #[.ref ex] Z h0 (Q_rmId Z ex a1 h0 n0) := by
 refine MetFree.of_bodySF (plainFor_of_name o_h456) hisR ?_
 intro p e s m args below meth c s₁ Bd hml0 hP hK
 obtain ⟨rfl, hZ, hh⟩ := hP
 have hx := Bd.exec
 have hby := Bd.bytes
 have hml : c.maxLocals = 1 := hml0
 have hown : s.vm.findClass oV = some m.cls := findClass_of_methodNamed Bd.named
 have hnm := (name_of_methodNamed Bd.named Bd.method).1
 have X0 : Stand p l e (rO 0 0 0 0) s m #[.ref ex] below meth c s₁ [] 0 0 := Stand.of_body Bd
 have e0 : s₁.heap = h0 := by rw [← hh, Bd.state]; rfl
 have N0 := Fr.nil n0
 obtain ⟨B_, hB_⟩ : ∃ z, z = s₁.setTop (entryFrame m #[.ref ex] 1) := ⟨_, rfl⟩
 have k0 : o_K p e below (s₁.setTop (mkF m 0 #[.val (.ref ex)] [])) B_ := by rw [hB_]; exact fun t k => castTop (by clear k; first | (simp [entryFrame, mkF, argsToLocals, Value.category, maxLocals]; done) | rfl) k
 have k1 : o_J p e below s₁ m 1 #[vR ex] [.ref ex] B_ := fun t_ hh => k0 t_ (by
  refine XS.aloadN X0.here hx rfl (hb hby o_h567) rfl rfl ?_
  exact hh)
 obtain ⟨T21, X22, e23, st24⟩ := getF X0 hx hZ hown (host := "") (Or.inl (wT hw 270 rfl)) Via.refl e0 f0_ (g := (mkF m 1 #[vR ex] [.ref ex])) rfl rfl (hb hby o_h568)
 have k2 : o_J p e below T21 m 4 #[vR ex] [.ref a1] B_ := fun t_ hh => k1 t_ (st24 t_ hh)
 clear k1 st24
 obtain ⟨fs, hr, hrun, hended, hW, hsame⟩ := X22.leave (v := some (.ref a1)) (fun h => by rw [Bd.returns] at h; cases h)
 refine ⟨_, _, (o_from hB_ (k2 _ (retOut X22 hx (t := .object oS) Bd.returns rfl (Or.inr (Or.inr (Or.inr (Or.inr ⟨rfl, rfl, rfl⟩)))) (hb hby o_h569) hr))), hrun, hended, _, _, rfl, ?_, ⟨_, rfl⟩, hW, hsame.mono (o_l rfl) (o_l rfl)⟩
 show Q_rmId Z ex a1 h0 n0 _ T21.heap _
 rw [e23]
 exact ⟨rfl, N0, rfl⟩
def Q_rmEv (Z : State) (ex : Addr) (vv : Int64) (h0 : Heap) (n0 : Nat) (v : Option Value) (h : Heap) (L : List Loc) : Prop := v = some (.long vv) ∧ Fr n0 L ∧ h = h0
theorem o_h570 : decode prog_14_method_9_code 0 = .ok (.aload_n 0, 1) := by decide +kernel
theorem o_h571 : decode prog_14_method_9_code 1 = .ok (.getfield 16, 3) := by decide +kernel
theorem o_h572 : decode prog_14_method_9_code 4 = .ok (.lreturn, 1) := by decide +kernel
theorem rmEv (l : Launch) (Z : State) (a0 : Array Value) (hw : ∀ d ∈ tables_1, d.before a0 Z = true) (ws : List Jvm.Cond) (ex : Addr) (vv : Int64) (h0 : Heap) (n0 : Nat) (Z0 : n0 ≤ h0.size) (f0_ : Fld Z h0 ex oV "expectedVersion" "J" (.long vv))  :
    o_Met l (⟨oV, "expectedVersion", "()J"⟩ : MethodName) prog_14_method_9_code 1 (some .long) ws (rO 0 0 0 0) #[.ref ex] Z h0 (Q_rmEv Z ex vv h0 n0) := by
 refine MetFree.of_bodySF (plainFor_of_name o_h456) hisR ?_
 intro p e s m args below meth c s₁ Bd hml0 hP hK
 obtain ⟨rfl, hZ, hh⟩ := hP
 have hx := Bd.exec
 have hby := Bd.bytes
 have hml : c.maxLocals = 1 := hml0
 have hown : s.vm.findClass oV = some m.cls := findClass_of_methodNamed Bd.named
 have hnm := (name_of_methodNamed Bd.named Bd.method).1
 have X0 : Stand p l e (rO 0 0 0 0) s m #[.ref ex] below meth c s₁ [] 0 0 := Stand.of_body Bd
 have e0 : s₁.heap = h0 := by rw [← hh, Bd.state]; rfl
 have N0 := Fr.nil n0
 obtain ⟨B_, hB_⟩ : ∃ z, z = s₁.setTop (entryFrame m #[.ref ex] 1) := ⟨_, rfl⟩
 have k0 : o_K p e below (s₁.setTop (mkF m 0 #[.val (.ref ex)] [])) B_ := by rw [hB_]; exact fun t k => castTop (by clear k; first | (simp [entryFrame, mkF, argsToLocals, Value.category, maxLocals]; done) | rfl) k
 have k1 : o_J p e below s₁ m 1 #[vR ex] [.ref ex] B_ := fun t_ hh => k0 t_ (by
  refine XS.aloadN X0.here hx rfl (hb hby o_h570) rfl rfl ?_
  exact hh)
 obtain ⟨T21, X22, e23, st24⟩ := getF X0 hx hZ hown (host := "") (Or.inl (wT hw 272 rfl)) Via.refl e0 f0_ (g := (mkF m 1 #[vR ex] [.ref ex])) rfl rfl (hb hby o_h571)
 have k2 : o_J p e below T21 m 4 #[vR ex] [.long vv] B_ := fun t_ hh => k1 t_ (st24 t_ hh)
 clear k1 st24
 obtain ⟨fs, hr, hrun, hended, hW, hsame⟩ := X22.leave (v := some (.long vv)) (fun h => by rw [Bd.returns] at h; cases h)
 refine ⟨_, _, (o_from hB_ (k2 _ (retOut X22 hx (t := .long) Bd.returns rfl (Or.inr (Or.inl ⟨rfl, rfl, _, rfl⟩)) (hb hby o_h572) hr))), hrun, hended, _, _, rfl, ?_, ⟨_, rfl⟩, hW, hsame.mono (o_l rfl) (o_l rfl)⟩
 show Q_rmEv Z ex vv h0 n0 _ T21.heap _
 rw [e23]
 exact ⟨rfl, N0, rfl⟩
def Q_rmCb (Z : State) (ex : Addr) (h0 : Heap) (n0 : Nat) (v : Option Value) (h : Heap) (L : List Loc) : Prop := v = some .null ∧ Fr n0 L ∧ h = h0
theorem o_h573 : decode prog_14_method_11_code 0 = .ok (.aload_n 0, 1) := by decide +kernel
theorem o_h574 : decode prog_14_method_11_code 1 = .ok (.getfield 24, 3) := by decide +kernel
theorem o_h575 : decode prog_14_method_11_code 4 = .ok (.areturn, 1) := by decide +kernel
theorem rmCb (l : Launch) (Z : State) (a0 : Array Value) (hw : ∀ d ∈ tables_1, d.before a0 Z = true) (ws : List Jvm.Cond) (ex : Addr) (h0 : Heap) (n0 : Nat) (Z0 : n0 ≤ h0.size) (f0_ : Fld Z h0 ex oV "changedBy" "Ljava/lang/String;" .null)  :
    o_Met l (⟨oV, "changedBy", "()Ljava/lang/String;"⟩ : MethodName) prog_14_method_11_code 1 (some (.object oS)) ws (rO 0 0 0 0) #[.ref ex] Z h0 (Q_rmCb Z ex h0 n0) := by
 refine MetFree.of_bodySF (plainFor_of_name o_h456) hisR ?_
 intro p e s m args below meth c s₁ Bd hml0 hP hK
 obtain ⟨rfl, hZ, hh⟩ := hP
 have hx := Bd.exec
 have hby := Bd.bytes
 have hml : c.maxLocals = 1 := hml0
 have hown : s.vm.findClass oV = some m.cls := findClass_of_methodNamed Bd.named
 have hnm := (name_of_methodNamed Bd.named Bd.method).1
 have X0 : Stand p l e (rO 0 0 0 0) s m #[.ref ex] below meth c s₁ [] 0 0 := Stand.of_body Bd
 have e0 : s₁.heap = h0 := by rw [← hh, Bd.state]; rfl
 have N0 := Fr.nil n0
 obtain ⟨B_, hB_⟩ : ∃ z, z = s₁.setTop (entryFrame m #[.ref ex] 1) := ⟨_, rfl⟩
 have k0 : o_K p e below (s₁.setTop (mkF m 0 #[.val (.ref ex)] [])) B_ := by rw [hB_]; exact fun t k => castTop (by clear k; first | (simp [entryFrame, mkF, argsToLocals, Value.category, maxLocals]; done) | rfl) k
 have k1 : o_J p e below s₁ m 1 #[vR ex] [.ref ex] B_ := fun t_ hh => k0 t_ (by
  refine XS.aloadN X0.here hx rfl (hb hby o_h573) rfl rfl ?_
  exact hh)
 obtain ⟨T21, X22, e23, st24⟩ := getF X0 hx hZ hown (host := "") (Or.inl (wT hw 276 rfl)) Via.refl e0 f0_ (g := (mkF m 1 #[vR ex] [.ref ex])) rfl rfl (hb hby o_h574)
 have k2 : o_J p e below T21 m 4 #[vR ex] [.null] B_ := fun t_ hh => k1 t_ (st24 t_ hh)
 clear k1 st24
 obtain ⟨fs, hr, hrun, hended, hW, hsame⟩ := X22.leave (v := some .null) (fun h => by rw [Bd.returns] at h; cases h)
 refine ⟨_, _, (o_from hB_ (k2 _ (retOut X22 hx (t := .object oS) Bd.returns rfl (Or.inr (Or.inr (Or.inr (Or.inr ⟨rfl, rfl, rfl⟩)))) (hb hby o_h575) hr))), hrun, hended, _, _, rfl, ?_, ⟨_, rfl⟩, hW, hsame.mono (o_l rfl) (o_l rfl)⟩
 show Q_rmCb Z ex h0 n0 _ T21.heap _
 rw [e23]
 exact ⟨rfl, N0, rfl⟩
def Q_rmCt (Z : State) (ex : Addr) (h0 : Heap) (n0 : Nat) (v : Option Value) (h : Heap) (L : List Loc) : Prop := v = some .null ∧ Fr n0 L ∧ h = h0
theorem o_h576 : decode prog_14_method_12_code 0 = .ok (.aload_n 0, 1) := by decide +kernel
theorem o_h577 : decode prog_14_method_12_code 1 = .ok (.getfield 27, 3) := by decide +kernel
theorem o_h578 : decode prog_14_method_12_code 4 = .ok (.areturn, 1) := by decide +kernel
theorem rmCt (l : Launch) (Z : State) (a0 : Array Value) (hw : ∀ d ∈ tables_1, d.before a0 Z = true) (ws : List Jvm.Cond) (ex : Addr) (h0 : Heap) (n0 : Nat) (Z0 : n0 ≤ h0.size) (f0_ : Fld Z h0 ex oV "changedAt" "Ljava/time/Instant;" .null)  :
    o_Met l (⟨oV, "changedAt", "()Ljava/time/Instant;"⟩ : MethodName) prog_14_method_12_code 1 (some (.object "java/time/Instant")) ws (rO 0 0 0 0) #[.ref ex] Z h0 (Q_rmCt Z ex h0 n0) := by
 refine MetFree.of_bodySF (plainFor_of_name o_h456) hisR ?_
 intro p e s m args below meth c s₁ Bd hml0 hP hK
 obtain ⟨rfl, hZ, hh⟩ := hP
 have hx := Bd.exec
 have hby := Bd.bytes
 have hml : c.maxLocals = 1 := hml0
 have hown : s.vm.findClass oV = some m.cls := findClass_of_methodNamed Bd.named
 have hnm := (name_of_methodNamed Bd.named Bd.method).1
 have X0 : Stand p l e (rO 0 0 0 0) s m #[.ref ex] below meth c s₁ [] 0 0 := Stand.of_body Bd
 have e0 : s₁.heap = h0 := by rw [← hh, Bd.state]; rfl
 have N0 := Fr.nil n0
 obtain ⟨B_, hB_⟩ : ∃ z, z = s₁.setTop (entryFrame m #[.ref ex] 1) := ⟨_, rfl⟩
 have k0 : o_K p e below (s₁.setTop (mkF m 0 #[.val (.ref ex)] [])) B_ := by rw [hB_]; exact fun t k => castTop (by clear k; first | (simp [entryFrame, mkF, argsToLocals, Value.category, maxLocals]; done) | rfl) k
 have k1 : o_J p e below s₁ m 1 #[vR ex] [.ref ex] B_ := fun t_ hh => k0 t_ (by
  refine XS.aloadN X0.here hx rfl (hb hby o_h576) rfl rfl ?_
  exact hh)
 obtain ⟨T21, X22, e23, st24⟩ := getF X0 hx hZ hown (host := "") (Or.inl (wT hw 278 rfl)) Via.refl e0 f0_ (g := (mkF m 1 #[vR ex] [.ref ex])) rfl rfl (hb hby o_h577)
 have k2 : o_J p e below T21 m 4 #[vR ex] [.null] B_ := fun t_ hh => k1 t_ (st24 t_ hh)
 clear k1 st24
 obtain ⟨fs, hr, hrun, hended, hW, hsame⟩ := X22.leave (v := some .null) (fun h => by rw [Bd.returns] at h; cases h)
 refine ⟨_, _, (o_from hB_ (k2 _ (retOut X22 hx (t := .object "java/time/Instant") Bd.returns rfl (Or.inr (Or.inr (Or.inr (Or.inr ⟨rfl, rfl, rfl⟩)))) (hb hby o_h578) hr))), hrun, hended, _, _, rfl, ?_, ⟨_, rfl⟩, hW, hsame.mono (o_l rfl) (o_l rfl)⟩
 show Q_rmCt Z ex h0 n0 _ T21.heap _
 rw [e23]
 exact ⟨rfl, N0, rfl⟩
def Q_rmDe (Z : State) (ex : Addr) (h0 : Heap) (n0 : Nat) (v : Option Value) (h : Heap) (L : List Loc) : Prop := v = some (.int (0 : Int32)) ∧ Fr n0 L ∧ h = h0
theorem o_h579 : decode prog_14_method_13_code 0 = .ok (.aload_n 0, 1) := by decide +kernel
theorem o_h580 : decode prog_14_method_13_code 1 = .ok (.getfield 31, 3) := by decide +kernel
theorem o_h581 : decode prog_14_method_13_code 4 = .ok (.ireturn, 1) := by decide +kernel
theorem rmDe (l : Launch) (Z : State) (a0 : Array Value) (hw : ∀ d ∈ tables_1, d.before a0 Z = true) (ws : List Jvm.Cond) (ex : Addr) (h0 : Heap) (n0 : Nat) (Z0 : n0 ≤ h0.size) (f0_ : Fld Z h0 ex oV "deleted" "Z" (.int (0 : Int32)))  :
    o_Met l (⟨oV, "deleted", "()Z"⟩ : MethodName) prog_14_method_13_code 1 (some .boolean) ws (rO 0 0 0 0) #[.ref ex] Z h0 (Q_rmDe Z ex h0 n0) := by
 refine MetFree.of_bodySF (plainFor_of_name o_h456) hisR ?_
 intro p e s m args below meth c s₁ Bd hml0 hP hK
 obtain ⟨rfl, hZ, hh⟩ := hP
 have hx := Bd.exec
 have hby := Bd.bytes
 have hml : c.maxLocals = 1 := hml0
 have hown : s.vm.findClass oV = some m.cls := findClass_of_methodNamed Bd.named
 have hnm := (name_of_methodNamed Bd.named Bd.method).1
 have X0 : Stand p l e (rO 0 0 0 0) s m #[.ref ex] below meth c s₁ [] 0 0 := Stand.of_body Bd
 have e0 : s₁.heap = h0 := by rw [← hh, Bd.state]; rfl
 have N0 := Fr.nil n0
 obtain ⟨B_, hB_⟩ : ∃ z, z = s₁.setTop (entryFrame m #[.ref ex] 1) := ⟨_, rfl⟩
 have k0 : o_K p e below (s₁.setTop (mkF m 0 #[.val (.ref ex)] [])) B_ := by rw [hB_]; exact fun t k => castTop (by clear k; first | (simp [entryFrame, mkF, argsToLocals, Value.category, maxLocals]; done) | rfl) k
 have k1 : o_J p e below s₁ m 1 #[vR ex] [.ref ex] B_ := fun t_ hh => k0 t_ (by
  refine XS.aloadN X0.here hx rfl (hb hby o_h579) rfl rfl ?_
  exact hh)
 obtain ⟨T21, X22, e23, st24⟩ := getF X0 hx hZ hown (host := "") (Or.inl (wT hw 280 rfl)) Via.refl e0 f0_ (g := (mkF m 1 #[vR ex] [.ref ex])) rfl rfl (hb hby o_h580)
 have k2 : o_J p e below T21 m 4 #[vR ex] [(.int 0)] B_ := fun t_ hh => k1 t_ (st24 t_ hh)
 clear k1 st24
 obtain ⟨fs, hr, hrun, hended, hW, hsame⟩ := X22.leave (v := some (.int 0)) (fun h => by rw [Bd.returns] at h; cases h)
 refine ⟨_, _, (o_from hB_ (k2 _ (retN X22 hx (t := .boolean) Bd.returns (by simp) (hb hby o_h581) hr))), hrun, hended, _, _, rfl, ?_, ⟨_, rfl⟩, hW, hsame.mono (o_l rfl) (o_l rfl)⟩
 show Q_rmDe Z ex h0 n0 _ T21.heap _
 rw [e23]
 exact ⟨rfl, N0, rfl⟩
def Q_rmGm (Z : State) (ex : Addr) (mm : Addr) (h0 : Heap) (n0 : Nat) (v : Option Value) (h : Heap) (L : List Loc) : Prop := v = some (.ref mm) ∧ Fr n0 L ∧ h = h0
theorem o_h582 : decode jdk_78_method_6_code 0 = .ok (.aload_n 0, 1) := by decide +kernel
theorem o_h583 : decode jdk_78_method_6_code 1 = .ok (.getfield 31, 3) := by decide +kernel
theorem o_h584 : decode jdk_78_method_6_code 4 = .ok (.areturn, 1) := by decide +kernel
theorem rmGm (l : Launch) (Z : State) (a0 : Array Value) (hw : ∀ d ∈ tables_1, d.before a0 Z = true) (ws : List Jvm.Cond) (ex : Addr) (mm : Addr) (h0 : Heap) (n0 : Nat) (Z0 : n0 ≤ h0.size) (f0_ : Fld Z h0 ex oT "detailMessage" "Ljava/lang/String;" (.ref mm))  :
    o_Met l (⟨oT, "getMessage", "()Ljava/lang/String;"⟩ : MethodName) jdk_78_method_6_code 1 (some (.object oS)) ws (rO 0 0 0 0) #[.ref ex] Z h0 (Q_rmGm Z ex mm h0 n0) := by
 refine MetFree.of_bodySF (plainFor_of_name o_h473) hisR ?_
 intro p e s m args below meth c s₁ Bd hml0 hP hK
 obtain ⟨rfl, hZ, hh⟩ := hP
 have hx := Bd.exec
 have hby := Bd.bytes
 have hml : c.maxLocals = 1 := hml0
 have hown : s.vm.findClass oT = some m.cls := findClass_of_methodNamed Bd.named
 have hnm := (name_of_methodNamed Bd.named Bd.method).1
 have X0 : Stand p l e (rO 0 0 0 0) s m #[.ref ex] below meth c s₁ [] 0 0 := Stand.of_body Bd
 have e0 : s₁.heap = h0 := by rw [← hh, Bd.state]; rfl
 have N0 := Fr.nil n0
 obtain ⟨B_, hB_⟩ : ∃ z, z = s₁.setTop (entryFrame m #[.ref ex] 1) := ⟨_, rfl⟩
 have k0 : o_K p e below (s₁.setTop (mkF m 0 #[.val (.ref ex)] [])) B_ := by rw [hB_]; exact fun t k => castTop (by clear k; first | (simp [entryFrame, mkF, argsToLocals, Value.category, maxLocals]; done) | rfl) k
 have k1 : o_J p e below s₁ m 1 #[vR ex] [.ref ex] B_ := fun t_ hh => k0 t_ (by
  refine XS.aloadN X0.here hx rfl (hb hby o_h582) rfl rfl ?_
  exact hh)
 obtain ⟨T21, X22, e23, st24⟩ := getF X0 hx hZ hown (host := "") (Or.inl (wT hw 267 rfl)) Via.refl e0 f0_ (g := (mkF m 1 #[vR ex] [.ref ex])) rfl rfl (hb hby o_h583)
 have k2 : o_J p e below T21 m 4 #[vR ex] [.ref mm] B_ := fun t_ hh => k1 t_ (st24 t_ hh)
 clear k1 st24
 obtain ⟨fs, hr, hrun, hended, hW, hsame⟩ := X22.leave (v := some (.ref mm)) (fun h => by rw [Bd.returns] at h; cases h)
 refine ⟨_, _, (o_from hB_ (k2 _ (retOut X22 hx (t := .object oS) Bd.returns rfl (Or.inr (Or.inr (Or.inr (Or.inr ⟨rfl, rfl, rfl⟩)))) (hb hby o_h584) hr))), hrun, hended, _, _, rfl, ?_, ⟨_, rfl⟩, hW, hsame.mono (o_l rfl) (o_l rfl)⟩
 show Q_rmGm Z ex mm h0 n0 _ T21.heap _
 rw [e23]
 exact ⟨rfl, N0, rfl⟩
def Q_rmOe (Z : State) (eo : Addr) (h0 : Heap) (n0 : Nat) (v : Option Value) (h : Heap) (L : List Loc) : Prop := v = some (.ref eo) ∧ Fr n0 L ∧ h = h0
theorem o_h585 : plainName "java/util/OptionalLong" = true := by first | (simp [plainName, overriddenIn]; done) | decide +kernel
theorem o_h586 : decode jdk_2650_method_2_code 0 = .ok (.getstatic 17, 3) := by decide +kernel
theorem o_h587 : decode jdk_2650_method_2_code 3 = .ok (.areturn, 1) := by decide +kernel
theorem rmOe (l : Launch) (Z : State) (a0 : Array Value) (hw : ∀ d ∈ tables_1, d.before a0 Z = true) (ws : List Jvm.Cond) (eo : Addr) (h0 : Heap) (n0 : Nat) (Z0 : n0 ≤ h0.size) (f0_ : Old Z n0 h0) (sE : Sta Z Z.heap "java/util/OptionalLong" "EMPTY" "Ljava/util/OptionalLong;" (.ref eo)) :
    o_Met l (⟨"java/util/OptionalLong", "empty", "()Ljava/util/OptionalLong;"⟩ : MethodName) jdk_2650_method_2_code 0 (some (.object "java/util/OptionalLong")) ws (rO 0 0 0 0) #[] Z h0 (Q_rmOe Z eo h0 n0) := by
 refine MetFree.of_bodySF (plainFor_of_name o_h585) hisR ?_
 intro p e s m args below meth c s₁ Bd hml0 hP hK
 obtain ⟨rfl, hZ, hh⟩ := hP
 have hx := Bd.exec
 have hby := Bd.bytes
 have hml : c.maxLocals = 0 := hml0
 have hown : s.vm.findClass "java/util/OptionalLong" = some m.cls := findClass_of_methodNamed Bd.named
 have hnm := (name_of_methodNamed Bd.named Bd.method).1
 have X0 : Stand p l e (rO 0 0 0 0) s m #[] below meth c s₁ [] 0 0 := Stand.of_body Bd
 have e0 : s₁.heap = h0 := by rw [← hh, Bd.state]; rfl
 have N0 := Fr.nil n0
 obtain ⟨B_, hB_⟩ : ∃ z, z = s₁.setTop (entryFrame m #[] 0) := ⟨_, rfl⟩
 have k0 : o_K p e below (s₁.setTop (mkF m 0 #[] [])) B_ := by rw [hB_]; exact fun t k => castTop (by clear k; first | (simp [entryFrame, mkF, argsToLocals, Value.category, maxLocals]; done) | rfl) k
 obtain ⟨T21, X22, e23, st24⟩ := getS X0 hx hZ hown (host := "") (wT hw 311 rfl) Via.refl e0 (Sta.ext f0_.2 sE) (g := (mkF m 0 #[] [])) rfl (hb hby o_h586)
 have k1 : o_J p e below T21 m 3 #[] [.ref eo] B_ := fun t_ hh => k0 t_ (st24 t_ hh)
 clear st24
 obtain ⟨fs, hr, hrun, hended, hW, hsame⟩ := X22.leave (v := some (.ref eo)) (fun h => by rw [Bd.returns] at h; cases h)
 refine ⟨_, _, (o_from hB_ (k1 _ (retOut X22 hx (t := .object "java/util/OptionalLong") Bd.returns rfl (Or.inr (Or.inr (Or.inr (Or.inr ⟨rfl, rfl, rfl⟩)))) (hb hby o_h587) hr))), hrun, hended, _, _, rfl, ?_, ⟨_, rfl⟩, hW, hsame.mono (o_l rfl) (o_l rfl)⟩
 show Q_rmOe Z eo h0 n0 _ T21.heap _
 rw [e23]
 exact ⟨rfl, N0, rfl⟩
def Q_rmCv (Z : State) (ex : Addr) (eo : Addr) (h0 : Heap) (n0 : Nat) (v : Option Value) (h : Heap) (L : List Loc) : Prop := v = some (.ref eo) ∧ Fr n0 L ∧ h = h0
theorem o_h588 : decode prog_14_method_10_code 0 = .ok (.aload_n 0, 1) := by decide +kernel
theorem o_h589 : decode prog_14_method_10_code 1 = .ok (.getfield 20, 3) := by decide +kernel
theorem o_h590 : decode prog_14_method_10_code 4 = .ok (.ifnonnull 9, 3) := by decide +kernel
theorem o_h591 : decode prog_14_method_10_code 7 = .ok (.invokestatic 111, 3) := by decide +kernel
theorem o_h592 : parseMethodDescriptor "()Ljava/util/OptionalLong;" = some ⟨[], some (.object "java/util/OptionalLong")⟩ := by decide +kernel
theorem o_h593 : decode prog_14_method_10_code 10 = .ok (.goto 13, 3) := by decide +kernel
theorem o_h594 : decode prog_14_method_10_code 23 = .ok (.areturn, 1) := by decide +kernel
theorem rmCv (l : Launch) (Z : State) (a0 : Array Value) (hw : ∀ d ∈ tables_1, d.before a0 Z = true) (ws : List Jvm.Cond) (ex : Addr) (eo : Addr) (h0 : Heap) (n0 : Nat) (Z0 : n0 ≤ h0.size) (f0_ : Fld Z h0 ex oV "currentVersion" "Ljava/lang/Long;" .null) (f1_ : Old Z n0 h0) (sE : Sta Z Z.heap "java/util/OptionalLong" "EMPTY" "Ljava/util/OptionalLong;" (.ref eo)) :
    o_Met l (⟨oV, "currentVersion", "()Ljava/util/OptionalLong;"⟩ : MethodName) prog_14_method_10_code 1 (some (.object "java/util/OptionalLong")) ws (rO 1 0 0 11) #[.ref ex] Z h0 (Q_rmCv Z ex eo h0 n0) := by
 refine MetFree.of_bodySF (plainFor_of_name o_h456) hisR ?_
 intro p e s m args below meth c s₁ Bd hml0 hP hK
 obtain ⟨rfl, hZ, hh⟩ := hP
 have hx := Bd.exec
 have hby := Bd.bytes
 have hml : c.maxLocals = 1 := hml0
 have hown : s.vm.findClass oV = some m.cls := findClass_of_methodNamed Bd.named
 have hnm := (name_of_methodNamed Bd.named Bd.method).1
 have X0 : Stand p l e (rO 1 0 0 11) s m #[.ref ex] below meth c s₁ [] 0 0 := Stand.of_body Bd
 have e0 : s₁.heap = h0 := by rw [← hh, Bd.state]; rfl
 have N0 := Fr.nil n0
 obtain ⟨B_, hB_⟩ : ∃ z, z = s₁.setTop (entryFrame m #[.ref ex] 1) := ⟨_, rfl⟩
 have k0 : o_K p e below (s₁.setTop (mkF m 0 #[.val (.ref ex)] [])) B_ := by rw [hB_]; exact fun t k => castTop (by clear k; first | (simp [entryFrame, mkF, argsToLocals, Value.category, maxLocals]; done) | rfl) k
 have k1 : o_J p e below s₁ m 1 #[vR ex] [.ref ex] B_ := fun t_ hh => k0 t_ (by
  refine XS.aloadN X0.here hx rfl (hb hby o_h588) rfl rfl ?_
  exact hh)
 obtain ⟨T21, X22, e23, st24⟩ := getF X0 hx hZ hown (host := "") (Or.inl (wT hw 274 rfl)) Via.refl e0 f0_ (g := (mkF m 1 #[vR ex] [.ref ex])) rfl rfl (hb hby o_h589)
 have k2 : o_J p e below T21 m 4 #[vR ex] [.null] B_ := fun t_ hh => k1 t_ (st24 t_ hh)
 clear k1 st24
 have k3 : o_J p e below T21 m 7 #[vR ex] [] B_ := fun t_ hh => k2 t_ (by
  refine XS.ifnonnullNo X22.here hx rfl (hb hby o_h590) rfl ?_
  exact hh)
 clear k2
 obtain ⟨_, _, ⟨T25, L26, k_27, n_28⟩, -, X29, ⟨Lc30, hQ31, l_32, y_33, z_34⟩, st35⟩ := Jvm.LawKit.callS X22 hx (y := ⟨"java/util/OptionalLong", "empty", "()Ljava/util/OptionalLong;"⟩) hown (mvT hZ (wT hw 307 rfl)) (mvT hZ (wT hw 308 rfl)) (mvT hZ (wT hw 309 rfl)) (mvT hZ (wT hw 310 rfl)) (by decide) (backOf (W := 0) (rmOe l Z a0 hw [] eo h0 n0 Z0 f1_ sE) hZ (wT hw 310 rfl) (wT hw 309 rfl) (by decide) (by decide)) (g := (mkF m 7 #[vR ex] [])) rfl (by rw [hml]; rfl) (argsL := []) (rest := []) (lenOf o_h592 rfl) rfl (o_w0 rfl) (hb hby o_h591) (fun _ _ => ⟨rfl, e23, o_l rfl, o_l rfl⟩)
 dsimp only [Pt.U, Pt.locs, Pt.cells, Pt.slots] at X29 l_32 y_33 z_34 st35 hQ31
 subst l_32 y_33 z_34
 obtain ⟨rfl, N36, e37⟩ := hQ31
 have N38 := Fr.app N0 N36
 have k4 : o_J p e below T25 m 10 #[vR ex] [.ref eo] B_ := fun t_ hh => k3 t_ (st35 t_ hh)
 clear k3 st35 X22 e23
 have k5 : o_J p e below T25 m 23 #[vR ex] [.ref eo] B_ := fun t_ hh => k4 t_ (by
  refine XS.goto X29.here hx rfl (pc0 := 10) (pc' := 23) rfl (hb hby o_h593) (by decide) (by decide) ?_
  exact hh)
 clear k4
 obtain ⟨fs, hr, hrun, hended, hW, hsame⟩ := X29.leave (v := some (.ref eo)) (fun h => by rw [Bd.returns] at h; cases h)
 refine ⟨_, _, (o_from hB_ (k5 _ (retOut X29 hx (t := .object "java/util/OptionalLong") Bd.returns rfl (Or.inr (Or.inr (Or.inr (Or.inr ⟨rfl, rfl, rfl⟩)))) (hb hby o_h594) hr))), hrun, hended, _, _, rfl, ?_, ⟨_, rfl⟩, hW, hsame.mono (o_l rfl) (o_l rfl)⟩
 show Q_rmCv Z ex eo h0 n0 _ T25.heap _
 rw [e37]
 exact ⟨rfl, N38, rfl⟩
def Q_rmIp (Z : State) (oa : Addr) (h0 : Heap) (n0 : Nat) (v : Option Value) (h : Heap) (L : List Loc) : Prop := v = some (.int (0 : Int32)) ∧ Fr n0 L ∧ h = h0
theorem o_h595 : decode jdk_2650_method_6_code 0 = .ok (.aload_n 0, 1) := by decide +kernel
theorem o_h596 : decode jdk_2650_method_6_code 1 = .ok (.getfield 7, 3) := by decide +kernel
theorem o_h597 : decode jdk_2650_method_6_code 4 = .ok (.ireturn, 1) := by decide +kernel
theorem rmIp (l : Launch) (Z : State) (a0 : Array Value) (hw : ∀ d ∈ tables_1, d.before a0 Z = true) (ws : List Jvm.Cond) (oa : Addr) (h0 : Heap) (n0 : Nat) (Z0 : n0 ≤ h0.size) (f0_ : Fld Z h0 oa "java/util/OptionalLong" "isPresent" "Z" (.int (0 : Int32)))  :
    o_Met l (⟨"java/util/OptionalLong", "isPresent", "()Z"⟩ : MethodName) jdk_2650_method_6_code 1 (some .boolean) ws (rO 0 0 0 0) #[.ref oa] Z h0 (Q_rmIp Z oa h0 n0) := by
 refine MetFree.of_bodySF (plainFor_of_name o_h585) hisR ?_
 intro p e s m args below meth c s₁ Bd hml0 hP hK
 obtain ⟨rfl, hZ, hh⟩ := hP
 have hx := Bd.exec
 have hby := Bd.bytes
 have hml : c.maxLocals = 1 := hml0
 have hown : s.vm.findClass "java/util/OptionalLong" = some m.cls := findClass_of_methodNamed Bd.named
 have hnm := (name_of_methodNamed Bd.named Bd.method).1
 have X0 : Stand p l e (rO 0 0 0 0) s m #[.ref oa] below meth c s₁ [] 0 0 := Stand.of_body Bd
 have e0 : s₁.heap = h0 := by rw [← hh, Bd.state]; rfl
 have N0 := Fr.nil n0
 obtain ⟨B_, hB_⟩ : ∃ z, z = s₁.setTop (entryFrame m #[.ref oa] 1) := ⟨_, rfl⟩
 have k0 : o_K p e below (s₁.setTop (mkF m 0 #[.val (.ref oa)] [])) B_ := by rw [hB_]; exact fun t k => castTop (by clear k; first | (simp [entryFrame, mkF, argsToLocals, Value.category, maxLocals]; done) | rfl) k
 have k1 : o_J p e below s₁ m 1 #[vR oa] [.ref oa] B_ := fun t_ hh => k0 t_ (by
  refine XS.aloadN X0.here hx rfl (hb hby o_h595) rfl rfl ?_
  exact hh)
 obtain ⟨T21, X22, e23, st24⟩ := getF X0 hx hZ hown (host := "") (Or.inl (wT hw 317 rfl)) Via.refl e0 f0_ (g := (mkF m 1 #[vR oa] [.ref oa])) rfl rfl (hb hby o_h596)
 have k2 : o_J p e below T21 m 4 #[vR oa] [(.int 0)] B_ := fun t_ hh => k1 t_ (st24 t_ hh)
 clear k1 st24
 obtain ⟨fs, hr, hrun, hended, hW, hsame⟩ := X22.leave (v := some (.int 0)) (fun h => by rw [Bd.returns] at h; cases h)
 refine ⟨_, _, (o_from hB_ (k2 _ (retN X22 hx (t := .boolean) Bd.returns (by simp) (hb hby o_h597) hr))), hrun, hended, _, _, rfl, ?_, ⟨_, rfl⟩, hW, hsame.mono (o_l rfl) (o_l rfl)⟩
 show Q_rmIp Z oa h0 n0 _ T21.heap _
 rw [e23]
 exact ⟨rfl, N0, rfl⟩
def Q_rmEq (Z : State) (a : Addr) (h0 : Heap) (n0 : Nat) (v : Option Value) (h : Heap) (L : List Loc) : Prop := v = some (.int (1 : Int32)) ∧ Fr n0 L ∧ h = h0
theorem o_h598 : decode jdk_42_method_66_code 0 = .ok (.aload_n 0, 1) := by decide +kernel
theorem o_h599 : decode jdk_42_method_66_code 1 = .ok (.aload_n 1, 1) := by decide +kernel
theorem o_h600 : decode jdk_42_method_66_code 2 = .ok (.if_acmp .ne 5, 3) := by decide +kernel
theorem o_h601 : decode jdk_42_method_66_code 5 = .ok (.iconst 1, 1) := by decide +kernel
theorem o_h602 : decode jdk_42_method_66_code 6 = .ok (.ireturn, 1) := by decide +kernel
theorem rmEq (l : Launch) (Z : State) (a0 : Array Value) (hw : ∀ d ∈ tables_1, d.before a0 Z = true) (ws : List Jvm.Cond) (a : Addr) (h0 : Heap) (n0 : Nat) (Z0 : n0 ≤ h0.size)   :
    o_Met l (⟨oS, "equals", "(Ljava/lang/Object;)Z"⟩ : MethodName) jdk_42_method_66_code 3 (some .boolean) ws (rO 0 0 0 0) #[.ref a, .ref a] Z h0 (Q_rmEq Z a h0 n0) := by
 refine MetFree.of_bodySF (plainFor_of_name o_h110) hisR ?_
 intro p e s m args below meth c s₁ Bd hml0 hP hK
 obtain ⟨rfl, hZ, hh⟩ := hP
 have hx := Bd.exec
 have hby := Bd.bytes
 have hml : c.maxLocals = 3 := hml0
 have hown : s.vm.findClass oS = some m.cls := findClass_of_methodNamed Bd.named
 have hnm := (name_of_methodNamed Bd.named Bd.method).1
 have X0 : Stand p l e (rO 0 0 0 0) s m #[.ref a, .ref a] below meth c s₁ [] 0 0 := Stand.of_body Bd
 have e0 : s₁.heap = h0 := by rw [← hh, Bd.state]; rfl
 have N0 := Fr.nil n0
 obtain ⟨B_, hB_⟩ : ∃ z, z = s₁.setTop (entryFrame m #[.ref a, .ref a] 3) := ⟨_, rfl⟩
 have k0 : o_K p e below (s₁.setTop (mkF m 0 #[.val (.ref a), .val (.ref a), .unset] [])) B_ := by rw [hB_]; exact fun t k => castTop (by clear k; first | (simp [entryFrame, mkF, argsToLocals, Value.category, maxLocals]; done) | rfl) k
 have k1 : o_J p e below s₁ m 6 #[vR a, vR a, .unset] [(.int 1)] B_ := fun t_ hh => k0 t_ (by
  refine XS.aloadN X0.here hx rfl (hb hby o_h598) rfl rfl ?_
  refine XS.aloadN X0.here hx rfl (hb hby o_h599) rfl rfl ?_
  refine RoadKit.acmp X0 hx (g := (mkF m 2 #[vR a, vR a, .unset] [.ref a, .ref a])) rfl (x := (.ref a)) (y := (.ref a)) rfl rfl (pc0 := 2) (pc' := 5) (same := true) rfl (hb hby o_h600) rfl (by simp) (by decide) (by decide) ?_
  refine XS.iconst X0.here hx rfl (hb hby o_h601) ?_
  exact hh)
 obtain ⟨fs, hr, hrun, hended, hW, hsame⟩ := X0.leave (v := some (.int 1)) (fun h => by rw [Bd.returns] at h; cases h)
 refine ⟨_, _, (o_from hB_ (k1 _ (retN X0 hx (t := .boolean) Bd.returns (by simp) (hb hby o_h602) hr))), hrun, hended, _, _, rfl, ?_, ⟨_, rfl⟩, hW, hsame.mono (o_l rfl) (o_l rfl)⟩
 show Q_rmEq Z a h0 n0 _ s₁.heap _
 rw [e0]
 exact ⟨rfl, N0, rfl⟩
/-- places of a list of pieces -/
theorem o_gl {xs ys : List Int32} {k : Nat} (h : k < xs.length) : (xs ++ ys).getD k 0 = xs.getD k 0 := by
  rw [List.getD_eq_getElem?_getD, List.getElem?_append_left h, List.getD_eq_getElem?_getD]
theorem o_gr {xs ys : List Int32} {k : Nat} (j : Nat) (h : k = xs.length + j) : (xs ++ ys).getD k 0 = ys.getD j 0 := by
  rw [List.getD_eq_getElem?_getD, List.getElem?_append_right (by omega), List.getD_eq_getElem?_getD, h, Nat.add_sub_cancel_left]
theorem o_exp_ge {v : Int64} {es : List Int32} (h : o_exp v es) : 25 ≤ es.length := by
  by_cases q : v.toInt < 0
  · rw [h.1 q, o_lit4_len]; omega
  · obtain ⟨gs, e, g⟩ := h.2 (Int.not_lt.mp q)
    rw [e, List.length_append, o_lit5_len]; omega
theorem o_exp_b8 {v : Int64} {es : List Int32} (h : o_exp v es) : ∀ c ∈ es, o_b8 c := by
  by_cases q : v.toInt < 0
  · rw [h.1 q]; exact o_lit4_b8
  · obtain ⟨gs, e, g⟩ := h.2 (Int.not_lt.mp q)
    rw [e]; intro c hc; exact (List.mem_append.mp hc).elim (o_lit5_b8 c) (g.2.1 c)
theorem o_msg_b8 {c1 c2 ms : List Int32} {v : Int64} (h1 : ∀ c ∈ c1, o_b8 c) (h2 : ∀ c ∈ c2, o_b8 c) (h : o_msg c1 c2 v ms) : ∀ c ∈ ms, o_b8 c := by
  obtain ⟨es, he, rfl⟩ := h
  intro c hc
  simp only [List.mem_append] at hc
  rcases hc with ((((q | q) | q) | q) | q) | q
  · exact o_lit1_b8 c q
  · exact h1 c q
  · exact o_lit2_b8 c q
  · exact h2 c q
  · exact o_lit3_b8 c q
  · exact o_exp_b8 he c q
theorem o_msg_len {c1 c2 ms es : List Int32} (h : ms = ((((o_lit1 ++ c1) ++ o_lit2) ++ c2) ++ o_lit3) ++ es) : ms.length = 22 + c1.length + 9 + c2.length + 39 + es.length := by
  rw [h]; simp only [List.length_append, o_lit1_len, o_lit2_len, o_lit3_len]
theorem o_msg_le {c1 c2 ms : List Int32} {v : Int64} (h1 : c1.length ≤ 2) (h2 : c2.length ≤ 2) (h : o_msg c1 c2 v ms) : ms.length ≤ 4000 := by
  obtain ⟨es, he, e⟩ := h
  have := o_exp_len he
  rw [o_msg_len e]; omega
theorem o_p {a b : Nat} : (((((22 : Int32) + Int32.ofNat a) + (9 : Int32)) + Int32.ofNat b) + (39 : Int32)) = Int32.ofNat (22 + a + 9 + b + 39) := by
  rw [Int32.ofNat_add, Int32.ofNat_add, Int32.ofNat_add, Int32.ofNat_add]
  first | done | rfl
theorem o_k22 {a : Nat} : (22 : Int32) + Int32.ofNat a = Int32.ofNat (22 + a) := (Int32.ofNat_add 22 a).symm
theorem o_k23 {a : Nat} : (23 : Int32) + Int32.ofNat a = Int32.ofNat (23 + a) := (Int32.ofNat_add 23 a).symm
theorem o_k31 {a : Nat} : (31 : Int32) + Int32.ofNat a = Int32.ofNat (31 + a) := (Int32.ofNat_add 31 a).symm
theorem o_k32 {a : Nat} : (32 : Int32) + Int32.ofNat a = Int32.ofNat (32 + a) := (Int32.ofNat_add 32 a).symm
theorem o_j9 {a : Nat} : Int32.ofNat a + (9 : Int32) = Int32.ofNat (a + 9) := (Int32.ofNat_add a 9).symm
theorem o_j24 {a : Nat} : Int32.ofNat a + (24 : Int32) = Int32.ofNat (a + 24) := (Int32.ofNat_add a 24).symm
theorem o_j25 {a : Nat} : Int32.ofNat a + (25 : Int32) = Int32.ofNat (a + 25) := (Int32.ofNat_add a 25).symm
theorem o_j26 {a : Nat} : Int32.ofNat a + (26 : Int32) = Int32.ofNat (a + 26) := (Int32.ofNat_add a 26).symm
theorem o_nlt1 {n : Nat} (h : ¬ Int32.ofNat n < (1 : Int32)) : 0 < n := by
  rcases Nat.eq_zero_or_pos n with q | q
  · rw [q] at h; exact absurd (by decide) h
  · exact q
theorem o_nlt2 {n : Nat} (hn : n ≤ 2) (h : ¬ Int32.ofNat n < (2 : Int32)) : 1 < n := by
  have : n = 0 ∨ n = 1 ∨ n = 2 := by omega
  rcases this with q | q | q
  · rw [q] at h; exact absurd (by decide) h
  · rw [q] at h; exact absurd (by decide) h
  · omega
section OwnMsg
variable {c1 c2 ms : List Int32} {v : Int64} {pn : Nat}
theorem o_mlenN (h : o_msg c1 c2 v ms) (ep : pn = 22 + c1.length + 9 + c2.length + 39) (c : lcmpW v (0 : Int64) < 0) : Int32.ofNat ms.length = Int32.ofNat (pn + 25) := by
  obtain ⟨es, he, e⟩ := h
  exact congrArg Int32.ofNat (by rw [o_msg_len e, he.1 (o_lcmp0.mp c), o_lit4_len, ep])
theorem o_mlenP (h : o_msg c1 c2 v ms) (ep : pn = 22 + c1.length + 9 + c2.length + 39) (c : ¬ lcmpW v (0 : Int64) < 0) : Int32.ofNat ms.length = Int32.ofNat (pn + 26 + Jvm.Free.SBG.digitsL v.toInt.toNat) := by
  obtain ⟨es, he, e⟩ := h
  obtain ⟨gs, e2, g⟩ := he.2 (Int.not_lt.mp fun q => c (o_lcmp0.mpr q))
  exact congrArg Int32.ofNat (by rw [o_msg_len e, e2, List.length_append, o_lit5_len, g.1, ep]; omega)
theorem o_lnN (h : o_msg c1 c2 v ms) (ep : pn = 22 + c1.length + 9 + c2.length + 39) (c : lcmpW v (0 : Int64) < 0) : Int32.ofNat pn + (25 : Int32) = Int32.ofNat ms.length := by
  rw [o_j25, o_mlenN h ep c]
theorem o_dnP {dn : Int32} (hd : (lcmpW v (0 : Int64) < 0 ∧ dn = 0) ∨ (¬ lcmpW v (0 : Int64) < 0 ∧ dn = Int32.ofNat (Jvm.Free.SBG.digitsL v.toInt.toNat))) (c : ¬ lcmpW v (0 : Int64) < 0) : dn = Int32.ofNat (Jvm.Free.SBG.digitsL v.toInt.toNat) := hd.elim (fun q => absurd q.1 c) (fun q => q.2)
theorem o_dn25 {dn : Int32} {p d : Nat} (h : dn = Int32.ofNat d) : Int32.ofNat p + (25 : Int32) + dn = Int32.ofNat (p + 25 + d) := by rw [h, o_j25, o_addN]
theorem o_lnP {dn : Int32} (hd : (lcmpW v (0 : Int64) < 0 ∧ dn = 0) ∨ (¬ lcmpW v (0 : Int64) < 0 ∧ dn = Int32.ofNat (Jvm.Free.SBG.digitsL v.toInt.toNat))) (h : o_msg c1 c2 v ms) (ep : pn = 22 + c1.length + 9 + c2.length + 39) (c : ¬ lcmpW v (0 : Int64) < 0) : (Int32.ofNat pn + (26 : Int32)) + dn = Int32.ofNat ms.length := by
  rw [o_dnP hd c, o_j26, o_addN, o_mlenP h ep c]
theorem o_il (h : o_msg c1 c2 v ms) : 95 + c1.length + c2.length ≤ ms.length := by
  obtain ⟨es, he, e⟩ := h
  have := o_exp_ge he
  rw [o_msg_len e]; omega
theorem o_i0 (h : o_msg c1 c2 v ms) : 0 < ms.length := by have := o_il h; omega
theorem o_i21 (h : o_msg c1 c2 v ms) : 21 < ms.length := by have := o_il h; omega
theorem o_i22 (h : o_msg c1 c2 v ms) : 22 < ms.length := by have := o_il h; omega
theorem o_i23 (h : o_msg c1 c2 v ms) : 23 < ms.length := by have := o_il h; omega
theorem o_iA (h : o_msg c1 c2 v ms) : 22 + c1.length < ms.length := by have := o_il h; omega
theorem o_iB (h : o_msg c1 c2 v ms) : 23 + c1.length < ms.length := by have := o_il h; omega
theorem o_iC (h : o_msg c1 c2 v ms) : 31 + c1.length < ms.length := by have := o_il h; omega
theorem o_iD (h : o_msg c1 c2 v ms) : 32 + c1.length < ms.length := by have := o_il h; omega
theorem o_iE (h : o_msg c1 c2 v ms) : 31 + c1.length + c2.length < ms.length := by have := o_il h; omega
theorem o_iF (h : o_msg c1 c2 v ms) : 32 + c1.length + c2.length < ms.length := by have := o_il h; omega
theorem o_iP (h : o_msg c1 c2 v ms) (ep : pn = 22 + c1.length + 9 + c2.length + 39) : pn < ms.length := by have := o_il h; omega
theorem o_iP9 (h : o_msg c1 c2 v ms) (ep : pn = 22 + c1.length + 9 + c2.length + 39) : pn + 9 < ms.length := by have := o_il h; omega
theorem o_iP24 (h : o_msg c1 c2 v ms) (ep : pn = 22 + c1.length + 9 + c2.length + 39) : pn + 24 < ms.length := by have := o_il h; omega
theorem o_iPp (h : o_msg c1 c2 v ms) (ep : pn = 22 + c1.length + 9 + c2.length + 39) (c : ¬ lcmpW v (0 : Int64) < 0) : ms.length = pn + 26 + Jvm.Free.SBG.digitsL v.toInt.toNat := by
  obtain ⟨es, he, e⟩ := h
  obtain ⟨gs, e2, g⟩ := he.2 (Int.not_lt.mp fun q => c (o_lcmp0.mpr q))
  rw [o_msg_len e, e2, List.length_append, o_lit5_len, g.1, ep]; omega
theorem o_iP25 (h : o_msg c1 c2 v ms) (ep : pn = 22 + c1.length + 9 + c2.length + 39) (c : ¬ lcmpW v (0 : Int64) < 0) : pn + 25 < ms.length := by
  rw [o_iPp h ep c]; omega
theorem o_iPd (h : o_msg c1 c2 v ms) (ep : pn = 22 + c1.length + 9 + c2.length + 39) (c : ¬ lcmpW v (0 : Int64) < 0) : pn + 25 + Jvm.Free.SBG.digitsL v.toInt.toNat < ms.length := by
  rw [o_iPp h ep c]; omega
theorem o_l1 : (o_lit1 ++ c1).length = 22 + c1.length := by rw [List.length_append, o_lit1_len]
theorem o_l2 : ((o_lit1 ++ c1) ++ o_lit2).length = 31 + c1.length := by rw [List.length_append, o_l1, o_lit2_len]; omega
theorem o_l3 : (((o_lit1 ++ c1) ++ o_lit2) ++ c2).length = 31 + c1.length + c2.length := by rw [List.length_append, o_l2]
theorem o_l4 : ((((o_lit1 ++ c1) ++ o_lit2) ++ c2) ++ o_lit3).length = 70 + c1.length + c2.length := by rw [List.length_append, o_l3, o_lit3_len]; omega
theorem o_in4 (h : o_msg c1 c2 v ms) {k : Nat} (hk : k < 70 + c1.length + c2.length) : ms.getD k 0 = ((((o_lit1 ++ c1) ++ o_lit2) ++ c2) ++ o_lit3).getD k 0 := by
  obtain ⟨es, he, rfl⟩ := h
  exact o_gl (by rw [o_l4]; exact hk)
theorem o_in3 (h : o_msg c1 c2 v ms) {k : Nat} (hk : k < 31 + c1.length + c2.length) : ms.getD k 0 = (((o_lit1 ++ c1) ++ o_lit2) ++ c2).getD k 0 := by
  rw [o_in4 h (by omega), o_gl (by rw [o_l3]; exact hk)]
theorem o_in2 (h : o_msg c1 c2 v ms) {k : Nat} (hk : k < 31 + c1.length) : ms.getD k 0 = ((o_lit1 ++ c1) ++ o_lit2).getD k 0 := by
  rw [o_in3 h (by omega), o_gl (by rw [o_l2]; exact hk)]
theorem o_in1 (h : o_msg c1 c2 v ms) {k : Nat} (hk : k < 22 + c1.length) : ms.getD k 0 = (o_lit1 ++ c1).getD k 0 := by
  rw [o_in2 h (by omega), o_gl (by rw [o_l1]; exact hk)]
theorem o_in0 (h : o_msg c1 c2 v ms) {k : Nat} (hk : k < 22) : ms.getD k 0 = o_lit1.getD k 0 := by
  rw [o_in1 h (by omega), o_gl (by rw [o_lit1_len]; exact hk)]
theorem o_c0 (h : o_msg c1 c2 v ms) : ms.getD 0 0 = (84 : Int32) := by rw [o_in0 h (by omega)]; rfl
theorem o_c21 (h : o_msg c1 c2 v ms) : ms.getD 21 0 = (32 : Int32) := by rw [o_in0 h (by omega)]; rfl
theorem o_c22 (h : o_msg c1 c2 v ms) (q : 0 < c1.length) : ms.getD 22 0 = c1.getD 0 0 := by rw [o_in1 h (by omega), o_gr 0 (by have := o_lit1_len; omega)]
theorem o_c23 (h : o_msg c1 c2 v ms) (q : 1 < c1.length) : ms.getD 23 0 = c1.getD 1 0 := by rw [o_in1 h (by omega), o_gr 1 (by have := o_lit1_len; omega)]
theorem o_cA (h : o_msg c1 c2 v ms) : ms.getD (22 + c1.length) 0 = (32 : Int32) := by rw [o_in2 h (by omega), o_gr 0 (by have := o_l1 (c1 := c1); omega)]; rfl
theorem o_cB (h : o_msg c1 c2 v ms) : ms.getD (23 + c1.length) 0 = (119 : Int32) := by rw [o_in2 h (by omega), o_gr 1 (by have := o_l1 (c1 := c1); omega)]; rfl
theorem o_cC (h : o_msg c1 c2 v ms) (q : 0 < c2.length) : ms.getD (31 + c1.length) 0 = c2.getD 0 0 := by rw [o_in3 h (by omega), o_gr 0 (by have := o_l2 (c1 := c1); omega)]
theorem o_cD (h : o_msg c1 c2 v ms) (q : 1 < c2.length) : ms.getD (32 + c1.length) 0 = c2.getD 1 0 := by rw [o_in3 h (by omega), o_gr 1 (by have := o_l2 (c1 := c1); omega)]
theorem o_cE (h : o_msg c1 c2 v ms) : ms.getD (31 + c1.length + c2.length) 0 = (32 : Int32) := by rw [o_in4 h (by omega), o_gr 0 (by have := o_l3 (c1 := c1) (c2 := c2); omega)]; rfl
theorem o_cF (h : o_msg c1 c2 v ms) : ms.getD (32 + c1.length + c2.length) 0 = (100 : Int32) := by rw [o_in4 h (by omega), o_gr 1 (by have := o_l3 (c1 := c1) (c2 := c2); omega)]; rfl
theorem o_es (h : o_msg c1 c2 v ms) (ep : pn = 22 + c1.length + 9 + c2.length + 39) : ∃ es, o_exp v es ∧ ∀ j, ms.getD (pn + j) 0 = es.getD j 0 := by
  obtain ⟨es, he, rfl⟩ := h
  exact ⟨es, he, fun j => o_gr j (by rw [o_l4, ep]; omega)⟩
theorem o_esN (h : o_msg c1 c2 v ms) (ep : pn = 22 + c1.length + 9 + c2.length + 39) (c : lcmpW v (0 : Int64) < 0) (j : Nat) : ms.getD (pn + j) 0 = o_lit4.getD j 0 := by
  obtain ⟨es, he, q⟩ := o_es h ep
  rw [q j, he.1 (o_lcmp0.mp c)]
theorem o_esP (h : o_msg c1 c2 v ms) (ep : pn = 22 + c1.length + 9 + c2.length + 39) (c : ¬ lcmpW v (0 : Int64) < 0) : ∃ gs, o_gs v.toInt.toNat gs ∧ ∀ j, ms.getD (pn + j) 0 = (o_lit5 ++ gs).getD j 0 := by
  obtain ⟨es, he, q⟩ := o_es h ep
  obtain ⟨gs, e2, g⟩ := he.2 (Int.not_lt.mp fun q => c (o_lcmp0.mpr q))
  exact ⟨gs, g, fun j => by rw [q j, e2]⟩
theorem o_cP (h : o_msg c1 c2 v ms) (ep : pn = 22 + c1.length + 9 + c2.length + 39) : ms.getD pn 0 = (116 : Int32) := by
  by_cases c : lcmpW v (0 : Int64) < 0
  · exact o_esN h ep c 0
  · obtain ⟨gs, g, q⟩ := o_esP h ep c
    exact q 0
theorem o_cN9 (h : o_msg c1 c2 v ms) (ep : pn = 22 + c1.length + 9 + c2.length + 39) (c : lcmpW v (0 : Int64) < 0) : ms.getD (pn + 9) 0 = (110 : Int32) := by rw [o_esN h ep c]; rfl
theorem o_cN24 (h : o_msg c1 c2 v ms) (ep : pn = 22 + c1.length + 9 + c2.length + 39) (c : lcmpW v (0 : Int64) < 0) : ms.getD (pn + 24) 0 = (110 : Int32) := by rw [o_esN h ep c]; rfl
theorem o_cP9 (h : o_msg c1 c2 v ms) (ep : pn = 22 + c1.length + 9 + c2.length + 39) (c : ¬ lcmpW v (0 : Int64) < 0) : ms.getD (pn + 9) 0 = (101 : Int32) := by
  obtain ⟨gs, g, q⟩ := o_esP h ep c
  rw [q, o_gl (by rw [o_lit5_len]; omega)]; rfl
theorem o_cP25 (h : o_msg c1 c2 v ms) (ep : pn = 22 + c1.length + 9 + c2.length + 39) (c : ¬ lcmpW v (0 : Int64) < 0) : ms.getD (pn + 25) 0 = (32 : Int32) := by
  obtain ⟨gs, g, q⟩ := o_esP h ep c
  rw [q, o_gl (by rw [o_lit5_len]; omega)]; rfl
theorem o_last {v : Int64} (hv : 0 ≤ v.toInt) : Int32.ofNat (48 + v.toInt.toNat % 10) = (((48 : Int32) + ((v - (v / (10 : Int64)) * (10 : Int64)).toInt32)).toUInt32.toUInt16.toUInt32.toInt32) := by
  have q := (c_lrem v (10 : Int64) 10 rfl).1 hv
  have a := c_l2i (v - (v / (10 : Int64)) * (10 : Int64))
  have r := rng32 ((v - (v / (10 : Int64)) * (10 : Int64)).toInt32)
  have b := c_iadd (48 : Int32) ((v - (v / (10 : Int64)) * (10 : Int64)).toInt32)
  have r2 := rng32 ((48 : Int32) + ((v - (v / (10 : Int64)) * (10 : Int64)).toInt32))
  rw [show (48 : Int32).toInt = 48 from rfl] at b
  have e : ((48 : Int32) + ((v - (v / (10 : Int64)) * (10 : Int64)).toInt32)).toInt = 48 + v.toInt % 10 := by omega
  rw [o_c16 (by omega) (by omega)]
  apply Int32.toInt_inj.mp
  rw [o_nat32 (by omega), e]
  omega
theorem o_cPd (h : o_msg c1 c2 v ms) (ep : pn = 22 + c1.length + 9 + c2.length + 39) (c : ¬ lcmpW v (0 : Int64) < 0) : ms.getD (pn + 25 + Jvm.Free.SBG.digitsL v.toInt.toNat) 0 = (((48 : Int32) + ((v - (v / (10 : Int64)) * (10 : Int64)).toInt32)).toUInt32.toUInt16.toUInt32.toInt32) := by
  obtain ⟨gs, g, q⟩ := o_esP h ep c
  have dp := (Jvm.Free.SBG.digitsL_pos v.toInt.toNat).1
  have g1 := g.1
  rw [Nat.add_assoc, q, o_gr (gs.length - 1) (by rw [o_lit5_len, g1]; omega), g.2.2]
  exact o_last (Int.not_lt.mp fun q => c (o_lcmp0.mpr q))
end OwnMsg

def Q_rmDi (Z : State) (vv : Int64) (h0 : Heap) (n0 : Nat) (v : Option Value) (h : Heap) (L : List Loc) : Prop := v = some (.int (Int32.ofNat (Jvm.Free.SBG.digitsL vv.toInt.toNat))) ∧ Fr n0 L ∧ h = h0
theorem o_h603 : decode method_4_code 0 = .ok (.iconst 1, 1) := by decide +kernel
theorem o_h604 : decode method_4_code 1 = .ok (.istore_n 2, 1) := by decide +kernel
theorem o_h605 : decode method_4_code 2 = .ok (.lload_n 0, 1) := by decide +kernel
theorem o_h606 : decode method_4_code 3 = .ok (.ldc2_w 71, 3) := by decide +kernel
theorem o_h607 : decode method_4_code 6 = .ok (.lcmp, 1) := by decide +kernel
theorem o_h608 : decode method_4_code 7 = .ok (.ifCond .lt 6, 3) := by decide +kernel
theorem o_h609 : decode method_4_code 10 = .ok (.iinc 2 1, 3) := by decide +kernel
theorem o_h610 : decode method_4_code 13 = .ok (.lload_n 0, 1) := by decide +kernel
theorem o_h611 : decode method_4_code 14 = .ok (.ldc2_w 76, 3) := by decide +kernel
theorem o_h612 : decode method_4_code 17 = .ok (.lcmp, 1) := by decide +kernel
theorem o_h613 : decode method_4_code 18 = .ok (.ifCond .lt 6, 3) := by decide +kernel
theorem o_h614 : decode method_4_code 21 = .ok (.iinc 2 1, 3) := by decide +kernel
theorem o_h615 : decode method_4_code 24 = .ok (.lload_n 0, 1) := by decide +kernel
theorem o_h616 : decode method_4_code 25 = .ok (.ldc2_w 78, 3) := by decide +kernel
theorem o_h617 : decode method_4_code 28 = .ok (.lcmp, 1) := by decide +kernel
theorem o_h618 : decode method_4_code 29 = .ok (.ifCond .lt 6, 3) := by decide +kernel
theorem o_h619 : decode method_4_code 32 = .ok (.iinc 2 1, 3) := by decide +kernel
theorem o_h620 : decode method_4_code 35 = .ok (.lload_n 0, 1) := by decide +kernel
theorem o_h621 : decode method_4_code 36 = .ok (.ldc2_w 80, 3) := by decide +kernel
theorem o_h622 : decode method_4_code 39 = .ok (.lcmp, 1) := by decide +kernel
theorem o_h623 : decode method_4_code 40 = .ok (.ifCond .lt 6, 3) := by decide +kernel
theorem o_h624 : decode method_4_code 43 = .ok (.iinc 2 1, 3) := by decide +kernel
theorem o_h625 : decode method_4_code 46 = .ok (.lload_n 0, 1) := by decide +kernel
theorem o_h626 : decode method_4_code 47 = .ok (.ldc2_w 82, 3) := by decide +kernel
theorem o_h627 : decode method_4_code 50 = .ok (.lcmp, 1) := by decide +kernel
theorem o_h628 : decode method_4_code 51 = .ok (.ifCond .lt 6, 3) := by decide +kernel
theorem o_h629 : decode method_4_code 54 = .ok (.iinc 2 1, 3) := by decide +kernel
theorem o_h630 : decode method_4_code 57 = .ok (.lload_n 0, 1) := by decide +kernel
theorem o_h631 : decode method_4_code 58 = .ok (.ldc2_w 84, 3) := by decide +kernel
theorem o_h632 : decode method_4_code 61 = .ok (.lcmp, 1) := by decide +kernel
theorem o_h633 : decode method_4_code 62 = .ok (.ifCond .lt 6, 3) := by decide +kernel
theorem o_h634 : decode method_4_code 65 = .ok (.iinc 2 1, 3) := by decide +kernel
theorem o_h635 : decode method_4_code 68 = .ok (.lload_n 0, 1) := by decide +kernel
theorem o_h636 : decode method_4_code 69 = .ok (.ldc2_w 86, 3) := by decide +kernel
theorem o_h637 : decode method_4_code 72 = .ok (.lcmp, 1) := by decide +kernel
theorem o_h638 : decode method_4_code 73 = .ok (.ifCond .lt 6, 3) := by decide +kernel
theorem o_h639 : decode method_4_code 76 = .ok (.iinc 2 1, 3) := by decide +kernel
theorem o_h640 : decode method_4_code 79 = .ok (.lload_n 0, 1) := by decide +kernel
theorem o_h641 : decode method_4_code 80 = .ok (.ldc2_w 88, 3) := by decide +kernel
theorem o_h642 : decode method_4_code 83 = .ok (.lcmp, 1) := by decide +kernel
theorem o_h643 : decode method_4_code 84 = .ok (.ifCond .lt 6, 3) := by decide +kernel
theorem o_h644 : decode method_4_code 87 = .ok (.iinc 2 1, 3) := by decide +kernel
theorem o_h645 : decode method_4_code 90 = .ok (.lload_n 0, 1) := by decide +kernel
theorem o_h646 : decode method_4_code 91 = .ok (.ldc2_w 90, 3) := by decide +kernel
theorem o_h647 : decode method_4_code 94 = .ok (.lcmp, 1) := by decide +kernel
theorem o_h648 : decode method_4_code 95 = .ok (.ifCond .lt 6, 3) := by decide +kernel
theorem o_h649 : decode method_4_code 98 = .ok (.iinc 2 1, 3) := by decide +kernel
theorem o_h650 : decode method_4_code 101 = .ok (.lload_n 0, 1) := by decide +kernel
theorem o_h651 : decode method_4_code 102 = .ok (.ldc2_w 92, 3) := by decide +kernel
theorem o_h652 : decode method_4_code 105 = .ok (.lcmp, 1) := by decide +kernel
theorem o_h653 : decode method_4_code 106 = .ok (.ifCond .lt 6, 3) := by decide +kernel
theorem o_h654 : decode method_4_code 109 = .ok (.iinc 2 1, 3) := by decide +kernel
theorem o_h655 : decode method_4_code 112 = .ok (.lload_n 0, 1) := by decide +kernel
theorem o_h656 : decode method_4_code 113 = .ok (.ldc2_w 94, 3) := by decide +kernel
theorem o_h657 : decode method_4_code 116 = .ok (.lcmp, 1) := by decide +kernel
theorem o_h658 : decode method_4_code 117 = .ok (.ifCond .lt 6, 3) := by decide +kernel
theorem o_h659 : decode method_4_code 120 = .ok (.iinc 2 1, 3) := by decide +kernel
theorem o_h660 : decode method_4_code 123 = .ok (.lload_n 0, 1) := by decide +kernel
theorem o_h661 : decode method_4_code 124 = .ok (.ldc2_w 96, 3) := by decide +kernel
theorem o_h662 : decode method_4_code 127 = .ok (.lcmp, 1) := by decide +kernel
theorem o_h663 : decode method_4_code 128 = .ok (.ifCond .lt 6, 3) := by decide +kernel
theorem o_h664 : decode method_4_code 131 = .ok (.iinc 2 1, 3) := by decide +kernel
theorem o_h665 : decode method_4_code 134 = .ok (.lload_n 0, 1) := by decide +kernel
theorem o_h666 : decode method_4_code 135 = .ok (.ldc2_w 98, 3) := by decide +kernel
theorem o_h667 : decode method_4_code 138 = .ok (.lcmp, 1) := by decide +kernel
theorem o_h668 : decode method_4_code 139 = .ok (.ifCond .lt 6, 3) := by decide +kernel
theorem o_h669 : decode method_4_code 142 = .ok (.iinc 2 1, 3) := by decide +kernel
theorem o_h670 : decode method_4_code 145 = .ok (.lload_n 0, 1) := by decide +kernel
theorem o_h671 : decode method_4_code 146 = .ok (.ldc2_w 100, 3) := by decide +kernel
theorem o_h672 : decode method_4_code 149 = .ok (.lcmp, 1) := by decide +kernel
theorem o_h673 : decode method_4_code 150 = .ok (.ifCond .lt 6, 3) := by decide +kernel
theorem o_h674 : decode method_4_code 153 = .ok (.iinc 2 1, 3) := by decide +kernel
theorem o_h675 : decode method_4_code 156 = .ok (.lload_n 0, 1) := by decide +kernel
theorem o_h676 : decode method_4_code 157 = .ok (.ldc2_w 102, 3) := by decide +kernel
theorem o_h677 : decode method_4_code 160 = .ok (.lcmp, 1) := by decide +kernel
theorem o_h678 : decode method_4_code 161 = .ok (.ifCond .lt 6, 3) := by decide +kernel
theorem o_h679 : decode method_4_code 164 = .ok (.iinc 2 1, 3) := by decide +kernel
theorem o_h680 : decode method_4_code 167 = .ok (.lload_n 0, 1) := by decide +kernel
theorem o_h681 : decode method_4_code 168 = .ok (.ldc2_w 104, 3) := by decide +kernel
theorem o_h682 : decode method_4_code 171 = .ok (.lcmp, 1) := by decide +kernel
theorem o_h683 : decode method_4_code 172 = .ok (.ifCond .lt 6, 3) := by decide +kernel
theorem o_h684 : decode method_4_code 175 = .ok (.iinc 2 1, 3) := by decide +kernel
theorem o_h685 : decode method_4_code 178 = .ok (.lload_n 0, 1) := by decide +kernel
theorem o_h686 : decode method_4_code 179 = .ok (.ldc2_w 106, 3) := by decide +kernel
theorem o_h687 : decode method_4_code 182 = .ok (.lcmp, 1) := by decide +kernel
theorem o_h688 : decode method_4_code 183 = .ok (.ifCond .lt 6, 3) := by decide +kernel
theorem o_h689 : decode method_4_code 186 = .ok (.iinc 2 1, 3) := by decide +kernel
theorem o_h690 : decode method_4_code 189 = .ok (.lload_n 0, 1) := by decide +kernel
theorem o_h691 : decode method_4_code 190 = .ok (.ldc2_w 108, 3) := by decide +kernel
theorem o_h692 : decode method_4_code 193 = .ok (.lcmp, 1) := by decide +kernel
theorem o_h693 : decode method_4_code 194 = .ok (.ifCond .lt 6, 3) := by decide +kernel
theorem o_h694 : decode method_4_code 197 = .ok (.iinc 2 1, 3) := by decide +kernel
theorem o_h695 : decode method_4_code 200 = .ok (.iload_n 2, 1) := by decide +kernel
theorem o_h696 : decode method_4_code 201 = .ok (.ireturn, 1) := by decide +kernel
theorem rmDi (l : Launch) (Z : State) (a0 : Array Value) (hw : ∀ d ∈ tables_1, d.before a0 Z = true) (ws : List Jvm.Cond) (vv : Int64) (h0 : Heap) (n0 : Nat) (Z0 : n0 ≤ h0.size) (hv : 0 ≤ vv.toInt)  :
    o_Met l (⟨oP, "digits", "(J)I"⟩ : MethodName) method_4_code 3 (some .int) ws (rO 0 0 0 0) #[.long vv] Z h0 (Q_rmDi Z vv h0 n0) := by
 refine MetFree.of_bodySF (plainFor_of_name o_h334) hisR ?_
 intro p e s m args below meth c s₁ Bd hml0 hP hK
 obtain ⟨rfl, hZ, hh⟩ := hP
 have hx := Bd.exec
 have hby := Bd.bytes
 have hml : c.maxLocals = 3 := hml0
 have hown : s.vm.findClass oP = some m.cls := findClass_of_methodNamed Bd.named
 have hnm := (name_of_methodNamed Bd.named Bd.method).1
 have X0 : Stand p l e (rO 0 0 0 0) s m #[.long vv] below meth c s₁ [] 0 0 := Stand.of_body Bd
 have e0 : s₁.heap = h0 := by rw [← hh, Bd.state]; rfl
 have N0 := Fr.nil n0
 obtain ⟨B_, hB_⟩ : ∃ z, z = s₁.setTop (entryFrame m #[.long vv] 3) := ⟨_, rfl⟩
 have k0 : o_K p e below (s₁.setTop (mkF m 0 #[.val (.long vv), .second, .unset] [])) B_ := by rw [hB_]; exact fun t k => castTop (by clear k; first | (simp [entryFrame, mkF, argsToLocals, Value.category, maxLocals]; done) | rfl) k
 have k1 : o_J p e below s₁ m 2 #[vL vv, .second, vI (1 : Int32)] [] B_ := fun t_ hh => k0 t_ (by
  refine XS.iconst X0.here hx rfl (hb hby o_h603) ?_
  refine XS.istoreN X0.here hx rfl (hb hby o_h604) rfl (l' := #[vL vv, .second, vI (1 : Int32)]) rfl ?_
  exact hh)
 obtain ⟨d1, hM21, k2⟩ : ∃ d1 : Int32, (d1 = Int32.ofNat (o_dc vv.toInt.toNat 1)) ∧ o_J p e below s₁ m 13 #[vL vv, .second, vI d1] [] B_ := by
  obtain ⟨d0, ed0⟩ : ∃ z, z = (1 : Int32) := ⟨_, rfl⟩
  have k3 : o_J p e below s₁ m 2 #[vL vv, .second, vI d0] [] B_ := by rw [ed0]; exact k1
  have hd0 : d0 = Int32.ofNat (o_dc vv.toInt.toNat 0) := ed0
  have k4 : o_J p e below s₁ m 7 #[vL vv, .second, vI d0] [(.int (lcmpW vv (10 : Int64)))] B_ := fun t_ hh => k3 t_ (by
   refine XS.lloadN X0.here hx rfl (hb hby o_h605) rfl ?_
   refine X0.ldc2Long hx hown (mvT hZ (wT hw 344 rfl)) (g := (mkF m 3 #[vL vv, .second, vI d0] [.long vv])) rfl (hb hby o_h606) _ ?_
   refine XS.lcmp X0.here hx rfl (hb hby o_h607) rfl ?_
   exact hh)
  clear k3
  by_cases c7 : (lcmpW vv (10 : Int64)) < 0
  ·
   have k5 : o_J p e below s₁ m 13 #[vL vv, .second, vI d0] [] B_ := fun t_ hh => k4 t_ (by
    refine XS.ifYes X0.here hx rfl (pc0 := 7) (pc' := 13) rfl (hb hby o_h608) rfl (o_ifT_lt c7) (by decide) (by decide) ?_
    exact hh)
   clear k4
   exact ⟨d0, (o_dcT hv (k := 0) (P := 10) (by decide) hd0 c7), k5⟩
  ·
   have k6 : o_J p e below s₁ m 13 #[vL vv, .second, vI (d0 + (1 : Int32))] [] B_ := fun t_ hh => k4 t_ (by
    refine XS.ifNo X0.here hx rfl (hb hby o_h608) rfl (o_ifF_lt c7) ?_
    refine XS.iinc X0.here hx rfl (hb hby o_h609) rfl (l' := #[vL vv, .second, vI (d0 + (1 : Int32))]) rfl ?_
    exact hh)
   clear k4
   exact ⟨(d0 + (1 : Int32)), (o_dcF hv (k := 0) (P := 10) (by decide) hd0 c7), k6⟩
 obtain ⟨d2, hM22, k7⟩ : ∃ d2 : Int32, (d2 = Int32.ofNat (o_dc vv.toInt.toNat 2)) ∧ o_J p e below s₁ m 24 #[vL vv, .second, vI d2] [] B_ := by
  have hd1 := hM21
  have k8 : o_J p e below s₁ m 18 #[vL vv, .second, vI d1] [(.int (lcmpW vv (100 : Int64)))] B_ := fun t_ hh => k2 t_ (by
   refine XS.lloadN X0.here hx rfl (hb hby o_h610) rfl ?_
   refine X0.ldc2Long hx hown (mvT hZ (wT hw 345 rfl)) (g := (mkF m 14 #[vL vv, .second, vI d1] [.long vv])) rfl (hb hby o_h611) _ ?_
   refine XS.lcmp X0.here hx rfl (hb hby o_h612) rfl ?_
   exact hh)
  clear k2
  by_cases c18 : (lcmpW vv (100 : Int64)) < 0
  ·
   have k9 : o_J p e below s₁ m 24 #[vL vv, .second, vI d1] [] B_ := fun t_ hh => k8 t_ (by
    refine XS.ifYes X0.here hx rfl (pc0 := 18) (pc' := 24) rfl (hb hby o_h613) rfl (o_ifT_lt c18) (by decide) (by decide) ?_
    exact hh)
   clear k8
   exact ⟨d1, (o_dcT hv (k := 1) (P := 100) (by decide) hd1 c18), k9⟩
  ·
   have k10 : o_J p e below s₁ m 24 #[vL vv, .second, vI (d1 + (1 : Int32))] [] B_ := fun t_ hh => k8 t_ (by
    refine XS.ifNo X0.here hx rfl (hb hby o_h613) rfl (o_ifF_lt c18) ?_
    refine XS.iinc X0.here hx rfl (hb hby o_h614) rfl (l' := #[vL vv, .second, vI (d1 + (1 : Int32))]) rfl ?_
    exact hh)
   clear k8
   exact ⟨(d1 + (1 : Int32)), (o_dcF hv (k := 1) (P := 100) (by decide) hd1 c18), k10⟩
 obtain ⟨d3, hM23, k11⟩ : ∃ d3 : Int32, (d3 = Int32.ofNat (o_dc vv.toInt.toNat 3)) ∧ o_J p e below s₁ m 35 #[vL vv, .second, vI d3] [] B_ := by
  have hd2 := hM22
  have k12 : o_J p e below s₁ m 29 #[vL vv, .second, vI d2] [(.int (lcmpW vv (1000 : Int64)))] B_ := fun t_ hh => k7 t_ (by
   refine XS.lloadN X0.here hx rfl (hb hby o_h615) rfl ?_
   refine X0.ldc2Long hx hown (mvT hZ (wT hw 346 rfl)) (g := (mkF m 25 #[vL vv, .second, vI d2] [.long vv])) rfl (hb hby o_h616) _ ?_
   refine XS.lcmp X0.here hx rfl (hb hby o_h617) rfl ?_
   exact hh)
  clear k7
  by_cases c29 : (lcmpW vv (1000 : Int64)) < 0
  ·
   have k13 : o_J p e below s₁ m 35 #[vL vv, .second, vI d2] [] B_ := fun t_ hh => k12 t_ (by
    refine XS.ifYes X0.here hx rfl (pc0 := 29) (pc' := 35) rfl (hb hby o_h618) rfl (o_ifT_lt c29) (by decide) (by decide) ?_
    exact hh)
   clear k12
   exact ⟨d2, (o_dcT hv (k := 2) (P := 1000) (by decide) hd2 c29), k13⟩
  ·
   have k14 : o_J p e below s₁ m 35 #[vL vv, .second, vI (d2 + (1 : Int32))] [] B_ := fun t_ hh => k12 t_ (by
    refine XS.ifNo X0.here hx rfl (hb hby o_h618) rfl (o_ifF_lt c29) ?_
    refine XS.iinc X0.here hx rfl (hb hby o_h619) rfl (l' := #[vL vv, .second, vI (d2 + (1 : Int32))]) rfl ?_
    exact hh)
   clear k12
   exact ⟨(d2 + (1 : Int32)), (o_dcF hv (k := 2) (P := 1000) (by decide) hd2 c29), k14⟩
 obtain ⟨d4, hM24, k15⟩ : ∃ d4 : Int32, (d4 = Int32.ofNat (o_dc vv.toInt.toNat 4)) ∧ o_J p e below s₁ m 46 #[vL vv, .second, vI d4] [] B_ := by
  have hd3 := hM23
  have k16 : o_J p e below s₁ m 40 #[vL vv, .second, vI d3] [(.int (lcmpW vv (10000 : Int64)))] B_ := fun t_ hh => k11 t_ (by
   refine XS.lloadN X0.here hx rfl (hb hby o_h620) rfl ?_
   refine X0.ldc2Long hx hown (mvT hZ (wT hw 347 rfl)) (g := (mkF m 36 #[vL vv, .second, vI d3] [.long vv])) rfl (hb hby o_h621) _ ?_
   refine XS.lcmp X0.here hx rfl (hb hby o_h622) rfl ?_
   exact hh)
  clear k11
  by_cases c40 : (lcmpW vv (10000 : Int64)) < 0
  ·
   have k17 : o_J p e below s₁ m 46 #[vL vv, .second, vI d3] [] B_ := fun t_ hh => k16 t_ (by
    refine XS.ifYes X0.here hx rfl (pc0 := 40) (pc' := 46) rfl (hb hby o_h623) rfl (o_ifT_lt c40) (by decide) (by decide) ?_
    exact hh)
   clear k16
   exact ⟨d3, (o_dcT hv (k := 3) (P := 10000) (by decide) hd3 c40), k17⟩
  ·
   have k18 : o_J p e below s₁ m 46 #[vL vv, .second, vI (d3 + (1 : Int32))] [] B_ := fun t_ hh => k16 t_ (by
    refine XS.ifNo X0.here hx rfl (hb hby o_h623) rfl (o_ifF_lt c40) ?_
    refine XS.iinc X0.here hx rfl (hb hby o_h624) rfl (l' := #[vL vv, .second, vI (d3 + (1 : Int32))]) rfl ?_
    exact hh)
   clear k16
   exact ⟨(d3 + (1 : Int32)), (o_dcF hv (k := 3) (P := 10000) (by decide) hd3 c40), k18⟩
 obtain ⟨d5, hM25, k19⟩ : ∃ d5 : Int32, (d5 = Int32.ofNat (o_dc vv.toInt.toNat 5)) ∧ o_J p e below s₁ m 57 #[vL vv, .second, vI d5] [] B_ := by
  have hd4 := hM24
  have k20 : o_J p e below s₁ m 51 #[vL vv, .second, vI d4] [(.int (lcmpW vv (100000 : Int64)))] B_ := fun t_ hh => k15 t_ (by
   refine XS.lloadN X0.here hx rfl (hb hby o_h625) rfl ?_
   refine X0.ldc2Long hx hown (mvT hZ (wT hw 348 rfl)) (g := (mkF m 47 #[vL vv, .second, vI d4] [.long vv])) rfl (hb hby o_h626) _ ?_
   refine XS.lcmp X0.here hx rfl (hb hby o_h627) rfl ?_
   exact hh)
  clear k15
  by_cases c51 : (lcmpW vv (100000 : Int64)) < 0
  ·
   have k21 : o_J p e below s₁ m 57 #[vL vv, .second, vI d4] [] B_ := fun t_ hh => k20 t_ (by
    refine XS.ifYes X0.here hx rfl (pc0 := 51) (pc' := 57) rfl (hb hby o_h628) rfl (o_ifT_lt c51) (by decide) (by decide) ?_
    exact hh)
   clear k20
   exact ⟨d4, (o_dcT hv (k := 4) (P := 100000) (by decide) hd4 c51), k21⟩
  ·
   have k22 : o_J p e below s₁ m 57 #[vL vv, .second, vI (d4 + (1 : Int32))] [] B_ := fun t_ hh => k20 t_ (by
    refine XS.ifNo X0.here hx rfl (hb hby o_h628) rfl (o_ifF_lt c51) ?_
    refine XS.iinc X0.here hx rfl (hb hby o_h629) rfl (l' := #[vL vv, .second, vI (d4 + (1 : Int32))]) rfl ?_
    exact hh)
   clear k20
   exact ⟨(d4 + (1 : Int32)), (o_dcF hv (k := 4) (P := 100000) (by decide) hd4 c51), k22⟩
 obtain ⟨d6, hM26, k23⟩ : ∃ d6 : Int32, (d6 = Int32.ofNat (o_dc vv.toInt.toNat 6)) ∧ o_J p e below s₁ m 68 #[vL vv, .second, vI d6] [] B_ := by
  have hd5 := hM25
  have k24 : o_J p e below s₁ m 62 #[vL vv, .second, vI d5] [(.int (lcmpW vv (1000000 : Int64)))] B_ := fun t_ hh => k19 t_ (by
   refine XS.lloadN X0.here hx rfl (hb hby o_h630) rfl ?_
   refine X0.ldc2Long hx hown (mvT hZ (wT hw 349 rfl)) (g := (mkF m 58 #[vL vv, .second, vI d5] [.long vv])) rfl (hb hby o_h631) _ ?_
   refine XS.lcmp X0.here hx rfl (hb hby o_h632) rfl ?_
   exact hh)
  clear k19
  by_cases c62 : (lcmpW vv (1000000 : Int64)) < 0
  ·
   have k25 : o_J p e below s₁ m 68 #[vL vv, .second, vI d5] [] B_ := fun t_ hh => k24 t_ (by
    refine XS.ifYes X0.here hx rfl (pc0 := 62) (pc' := 68) rfl (hb hby o_h633) rfl (o_ifT_lt c62) (by decide) (by decide) ?_
    exact hh)
   clear k24
   exact ⟨d5, (o_dcT hv (k := 5) (P := 1000000) (by decide) hd5 c62), k25⟩
  ·
   have k26 : o_J p e below s₁ m 68 #[vL vv, .second, vI (d5 + (1 : Int32))] [] B_ := fun t_ hh => k24 t_ (by
    refine XS.ifNo X0.here hx rfl (hb hby o_h633) rfl (o_ifF_lt c62) ?_
    refine XS.iinc X0.here hx rfl (hb hby o_h634) rfl (l' := #[vL vv, .second, vI (d5 + (1 : Int32))]) rfl ?_
    exact hh)
   clear k24
   exact ⟨(d5 + (1 : Int32)), (o_dcF hv (k := 5) (P := 1000000) (by decide) hd5 c62), k26⟩
 obtain ⟨d7, hM27, k27⟩ : ∃ d7 : Int32, (d7 = Int32.ofNat (o_dc vv.toInt.toNat 7)) ∧ o_J p e below s₁ m 79 #[vL vv, .second, vI d7] [] B_ := by
  have hd6 := hM26
  have k28 : o_J p e below s₁ m 73 #[vL vv, .second, vI d6] [(.int (lcmpW vv (10000000 : Int64)))] B_ := fun t_ hh => k23 t_ (by
   refine XS.lloadN X0.here hx rfl (hb hby o_h635) rfl ?_
   refine X0.ldc2Long hx hown (mvT hZ (wT hw 350 rfl)) (g := (mkF m 69 #[vL vv, .second, vI d6] [.long vv])) rfl (hb hby o_h636) _ ?_
   refine XS.lcmp X0.here hx rfl (hb hby o_h637) rfl ?_
   exact hh)
  clear k23
  by_cases c73 : (lcmpW vv (10000000 : Int64)) < 0
  ·
   have k29 : o_J p e below s₁ m 79 #[vL vv, .second, vI d6] [] B_ := fun t_ hh => k28 t_ (by
    refine XS.ifYes X0.here hx rfl (pc0 := 73) (pc' := 79) rfl (hb hby o_h638) rfl (o_ifT_lt c73) (by decide) (by decide) ?_
    exact hh)
   clear k28
   exact ⟨d6, (o_dcT hv (k := 6) (P := 10000000) (by decide) hd6 c73), k29⟩
  ·
   have k30 : o_J p e below s₁ m 79 #[vL vv, .second, vI (d6 + (1 : Int32))] [] B_ := fun t_ hh => k28 t_ (by
    refine XS.ifNo X0.here hx rfl (hb hby o_h638) rfl (o_ifF_lt c73) ?_
    refine XS.iinc X0.here hx rfl (hb hby o_h639) rfl (l' := #[vL vv, .second, vI (d6 + (1 : Int32))]) rfl ?_
    exact hh)
   clear k28
   exact ⟨(d6 + (1 : Int32)), (o_dcF hv (k := 6) (P := 10000000) (by decide) hd6 c73), k30⟩
 obtain ⟨d8, hM28, k31⟩ : ∃ d8 : Int32, (d8 = Int32.ofNat (o_dc vv.toInt.toNat 8)) ∧ o_J p e below s₁ m 90 #[vL vv, .second, vI d8] [] B_ := by
  have hd7 := hM27
  have k32 : o_J p e below s₁ m 84 #[vL vv, .second, vI d7] [(.int (lcmpW vv (100000000 : Int64)))] B_ := fun t_ hh => k27 t_ (by
   refine XS.lloadN X0.here hx rfl (hb hby o_h640) rfl ?_
   refine X0.ldc2Long hx hown (mvT hZ (wT hw 351 rfl)) (g := (mkF m 80 #[vL vv, .second, vI d7] [.long vv])) rfl (hb hby o_h641) _ ?_
   refine XS.lcmp X0.here hx rfl (hb hby o_h642) rfl ?_
   exact hh)
  clear k27
  by_cases c84 : (lcmpW vv (100000000 : Int64)) < 0
  ·
   have k33 : o_J p e below s₁ m 90 #[vL vv, .second, vI d7] [] B_ := fun t_ hh => k32 t_ (by
    refine XS.ifYes X0.here hx rfl (pc0 := 84) (pc' := 90) rfl (hb hby o_h643) rfl (o_ifT_lt c84) (by decide) (by decide) ?_
    exact hh)
   clear k32
   exact ⟨d7, (o_dcT hv (k := 7) (P := 100000000) (by decide) hd7 c84), k33⟩
  ·
   have k34 : o_J p e below s₁ m 90 #[vL vv, .second, vI (d7 + (1 : Int32))] [] B_ := fun t_ hh => k32 t_ (by
    refine XS.ifNo X0.here hx rfl (hb hby o_h643) rfl (o_ifF_lt c84) ?_
    refine XS.iinc X0.here hx rfl (hb hby o_h644) rfl (l' := #[vL vv, .second, vI (d7 + (1 : Int32))]) rfl ?_
    exact hh)
   clear k32
   exact ⟨(d7 + (1 : Int32)), (o_dcF hv (k := 7) (P := 100000000) (by decide) hd7 c84), k34⟩
 obtain ⟨d9, hM29, k35⟩ : ∃ d9 : Int32, (d9 = Int32.ofNat (o_dc vv.toInt.toNat 9)) ∧ o_J p e below s₁ m 101 #[vL vv, .second, vI d9] [] B_ := by
  have hd8 := hM28
  have k36 : o_J p e below s₁ m 95 #[vL vv, .second, vI d8] [(.int (lcmpW vv (1000000000 : Int64)))] B_ := fun t_ hh => k31 t_ (by
   refine XS.lloadN X0.here hx rfl (hb hby o_h645) rfl ?_
   refine X0.ldc2Long hx hown (mvT hZ (wT hw 352 rfl)) (g := (mkF m 91 #[vL vv, .second, vI d8] [.long vv])) rfl (hb hby o_h646) _ ?_
   refine XS.lcmp X0.here hx rfl (hb hby o_h647) rfl ?_
   exact hh)
  clear k31
  by_cases c95 : (lcmpW vv (1000000000 : Int64)) < 0
  ·
   have k37 : o_J p e below s₁ m 101 #[vL vv, .second, vI d8] [] B_ := fun t_ hh => k36 t_ (by
    refine XS.ifYes X0.here hx rfl (pc0 := 95) (pc' := 101) rfl (hb hby o_h648) rfl (o_ifT_lt c95) (by decide) (by decide) ?_
    exact hh)
   clear k36
   exact ⟨d8, (o_dcT hv (k := 8) (P := 1000000000) (by decide) hd8 c95), k37⟩
  ·
   have k38 : o_J p e below s₁ m 101 #[vL vv, .second, vI (d8 + (1 : Int32))] [] B_ := fun t_ hh => k36 t_ (by
    refine XS.ifNo X0.here hx rfl (hb hby o_h648) rfl (o_ifF_lt c95) ?_
    refine XS.iinc X0.here hx rfl (hb hby o_h649) rfl (l' := #[vL vv, .second, vI (d8 + (1 : Int32))]) rfl ?_
    exact hh)
   clear k36
   exact ⟨(d8 + (1 : Int32)), (o_dcF hv (k := 8) (P := 1000000000) (by decide) hd8 c95), k38⟩
 obtain ⟨d10, hM30, k39⟩ : ∃ d10 : Int32, (d10 = Int32.ofNat (o_dc vv.toInt.toNat 10)) ∧ o_J p e below s₁ m 112 #[vL vv, .second, vI d10] [] B_ := by
  have hd9 := hM29
  have k40 : o_J p e below s₁ m 106 #[vL vv, .second, vI d9] [(.int (lcmpW vv (10000000000 : Int64)))] B_ := fun t_ hh => k35 t_ (by
   refine XS.lloadN X0.here hx rfl (hb hby o_h650) rfl ?_
   refine X0.ldc2Long hx hown (mvT hZ (wT hw 353 rfl)) (g := (mkF m 102 #[vL vv, .second, vI d9] [.long vv])) rfl (hb hby o_h651) _ ?_
   refine XS.lcmp X0.here hx rfl (hb hby o_h652) rfl ?_
   exact hh)
  clear k35
  by_cases c106 : (lcmpW vv (10000000000 : Int64)) < 0
  ·
   have k41 : o_J p e below s₁ m 112 #[vL vv, .second, vI d9] [] B_ := fun t_ hh => k40 t_ (by
    refine XS.ifYes X0.here hx rfl (pc0 := 106) (pc' := 112) rfl (hb hby o_h653) rfl (o_ifT_lt c106) (by decide) (by decide) ?_
    exact hh)
   clear k40
   exact ⟨d9, (o_dcT hv (k := 9) (P := 10000000000) (by decide) hd9 c106), k41⟩
  ·
   have k42 : o_J p e below s₁ m 112 #[vL vv, .second, vI (d9 + (1 : Int32))] [] B_ := fun t_ hh => k40 t_ (by
    refine XS.ifNo X0.here hx rfl (hb hby o_h653) rfl (o_ifF_lt c106) ?_
    refine XS.iinc X0.here hx rfl (hb hby o_h654) rfl (l' := #[vL vv, .second, vI (d9 + (1 : Int32))]) rfl ?_
    exact hh)
   clear k40
   exact ⟨(d9 + (1 : Int32)), (o_dcF hv (k := 9) (P := 10000000000) (by decide) hd9 c106), k42⟩
 obtain ⟨d11, hM31, k43⟩ : ∃ d11 : Int32, (d11 = Int32.ofNat (o_dc vv.toInt.toNat 11)) ∧ o_J p e below s₁ m 123 #[vL vv, .second, vI d11] [] B_ := by
  have hd10 := hM30
  have k44 : o_J p e below s₁ m 117 #[vL vv, .second, vI d10] [(.int (lcmpW vv (100000000000 : Int64)))] B_ := fun t_ hh => k39 t_ (by
   refine XS.lloadN X0.here hx rfl (hb hby o_h655) rfl ?_
   refine X0.ldc2Long hx hown (mvT hZ (wT hw 354 rfl)) (g := (mkF m 113 #[vL vv, .second, vI d10] [.long vv])) rfl (hb hby o_h656) _ ?_
   refine XS.lcmp X0.here hx rfl (hb hby o_h657) rfl ?_
   exact hh)
  clear k39
  by_cases c117 : (lcmpW vv (100000000000 : Int64)) < 0
  ·
   have k45 : o_J p e below s₁ m 123 #[vL vv, .second, vI d10] [] B_ := fun t_ hh => k44 t_ (by
    refine XS.ifYes X0.here hx rfl (pc0 := 117) (pc' := 123) rfl (hb hby o_h658) rfl (o_ifT_lt c117) (by decide) (by decide) ?_
    exact hh)
   clear k44
   exact ⟨d10, (o_dcT hv (k := 10) (P := 100000000000) (by decide) hd10 c117), k45⟩
  ·
   have k46 : o_J p e below s₁ m 123 #[vL vv, .second, vI (d10 + (1 : Int32))] [] B_ := fun t_ hh => k44 t_ (by
    refine XS.ifNo X0.here hx rfl (hb hby o_h658) rfl (o_ifF_lt c117) ?_
    refine XS.iinc X0.here hx rfl (hb hby o_h659) rfl (l' := #[vL vv, .second, vI (d10 + (1 : Int32))]) rfl ?_
    exact hh)
   clear k44
   exact ⟨(d10 + (1 : Int32)), (o_dcF hv (k := 10) (P := 100000000000) (by decide) hd10 c117), k46⟩
 obtain ⟨d12, hM32, k47⟩ : ∃ d12 : Int32, (d12 = Int32.ofNat (o_dc vv.toInt.toNat 12)) ∧ o_J p e below s₁ m 134 #[vL vv, .second, vI d12] [] B_ := by
  have hd11 := hM31
  have k48 : o_J p e below s₁ m 128 #[vL vv, .second, vI d11] [(.int (lcmpW vv (1000000000000 : Int64)))] B_ := fun t_ hh => k43 t_ (by
   refine XS.lloadN X0.here hx rfl (hb hby o_h660) rfl ?_
   refine X0.ldc2Long hx hown (mvT hZ (wT hw 355 rfl)) (g := (mkF m 124 #[vL vv, .second, vI d11] [.long vv])) rfl (hb hby o_h661) _ ?_
   refine XS.lcmp X0.here hx rfl (hb hby o_h662) rfl ?_
   exact hh)
  clear k43
  by_cases c128 : (lcmpW vv (1000000000000 : Int64)) < 0
  ·
   have k49 : o_J p e below s₁ m 134 #[vL vv, .second, vI d11] [] B_ := fun t_ hh => k48 t_ (by
    refine XS.ifYes X0.here hx rfl (pc0 := 128) (pc' := 134) rfl (hb hby o_h663) rfl (o_ifT_lt c128) (by decide) (by decide) ?_
    exact hh)
   clear k48
   exact ⟨d11, (o_dcT hv (k := 11) (P := 1000000000000) (by decide) hd11 c128), k49⟩
  ·
   have k50 : o_J p e below s₁ m 134 #[vL vv, .second, vI (d11 + (1 : Int32))] [] B_ := fun t_ hh => k48 t_ (by
    refine XS.ifNo X0.here hx rfl (hb hby o_h663) rfl (o_ifF_lt c128) ?_
    refine XS.iinc X0.here hx rfl (hb hby o_h664) rfl (l' := #[vL vv, .second, vI (d11 + (1 : Int32))]) rfl ?_
    exact hh)
   clear k48
   exact ⟨(d11 + (1 : Int32)), (o_dcF hv (k := 11) (P := 1000000000000) (by decide) hd11 c128), k50⟩
 obtain ⟨d13, hM33, k51⟩ : ∃ d13 : Int32, (d13 = Int32.ofNat (o_dc vv.toInt.toNat 13)) ∧ o_J p e below s₁ m 145 #[vL vv, .second, vI d13] [] B_ := by
  have hd12 := hM32
  have k52 : o_J p e below s₁ m 139 #[vL vv, .second, vI d12] [(.int (lcmpW vv (10000000000000 : Int64)))] B_ := fun t_ hh => k47 t_ (by
   refine XS.lloadN X0.here hx rfl (hb hby o_h665) rfl ?_
   refine X0.ldc2Long hx hown (mvT hZ (wT hw 356 rfl)) (g := (mkF m 135 #[vL vv, .second, vI d12] [.long vv])) rfl (hb hby o_h666) _ ?_
   refine XS.lcmp X0.here hx rfl (hb hby o_h667) rfl ?_
   exact hh)
  clear k47
  by_cases c139 : (lcmpW vv (10000000000000 : Int64)) < 0
  ·
   have k53 : o_J p e below s₁ m 145 #[vL vv, .second, vI d12] [] B_ := fun t_ hh => k52 t_ (by
    refine XS.ifYes X0.here hx rfl (pc0 := 139) (pc' := 145) rfl (hb hby o_h668) rfl (o_ifT_lt c139) (by decide) (by decide) ?_
    exact hh)
   clear k52
   exact ⟨d12, (o_dcT hv (k := 12) (P := 10000000000000) (by decide) hd12 c139), k53⟩
  ·
   have k54 : o_J p e below s₁ m 145 #[vL vv, .second, vI (d12 + (1 : Int32))] [] B_ := fun t_ hh => k52 t_ (by
    refine XS.ifNo X0.here hx rfl (hb hby o_h668) rfl (o_ifF_lt c139) ?_
    refine XS.iinc X0.here hx rfl (hb hby o_h669) rfl (l' := #[vL vv, .second, vI (d12 + (1 : Int32))]) rfl ?_
    exact hh)
   clear k52
   exact ⟨(d12 + (1 : Int32)), (o_dcF hv (k := 12) (P := 10000000000000) (by decide) hd12 c139), k54⟩
 obtain ⟨d14, hM34, k55⟩ : ∃ d14 : Int32, (d14 = Int32.ofNat (o_dc vv.toInt.toNat 14)) ∧ o_J p e below s₁ m 156 #[vL vv, .second, vI d14] [] B_ := by
  have hd13 := hM33
  have k56 : o_J p e below s₁ m 150 #[vL vv, .second, vI d13] [(.int (lcmpW vv (100000000000000 : Int64)))] B_ := fun t_ hh => k51 t_ (by
   refine XS.lloadN X0.here hx rfl (hb hby o_h670) rfl ?_
   refine X0.ldc2Long hx hown (mvT hZ (wT hw 357 rfl)) (g := (mkF m 146 #[vL vv, .second, vI d13] [.long vv])) rfl (hb hby o_h671) _ ?_
   refine XS.lcmp X0.here hx rfl (hb hby o_h672) rfl ?_
   exact hh)
  clear k51
  by_cases c150 : (lcmpW vv (100000000000000 : Int64)) < 0
  ·
   have k57 : o_J p e below s₁ m 156 #[vL vv, .second, vI d13] [] B_ := fun t_ hh => k56 t_ (by
    refine XS.ifYes X0.here hx rfl (pc0 := 150) (pc' := 156) rfl (hb hby o_h673) rfl (o_ifT_lt c150) (by decide) (by decide) ?_
    exact hh)
   clear k56
   exact ⟨d13, (o_dcT hv (k := 13) (P := 100000000000000) (by decide) hd13 c150), k57⟩
  ·
   have k58 : o_J p e below s₁ m 156 #[vL vv, .second, vI (d13 + (1 : Int32))] [] B_ := fun t_ hh => k56 t_ (by
    refine XS.ifNo X0.here hx rfl (hb hby o_h673) rfl (o_ifF_lt c150) ?_
    refine XS.iinc X0.here hx rfl (hb hby o_h674) rfl (l' := #[vL vv, .second, vI (d13 + (1 : Int32))]) rfl ?_
    exact hh)
   clear k56
   exact ⟨(d13 + (1 : Int32)), (o_dcF hv (k := 13) (P := 100000000000000) (by decide) hd13 c150), k58⟩
 obtain ⟨d15, hM35, k59⟩ : ∃ d15 : Int32, (d15 = Int32.ofNat (o_dc vv.toInt.toNat 15)) ∧ o_J p e below s₁ m 167 #[vL vv, .second, vI d15] [] B_ := by
  have hd14 := hM34
  have k60 : o_J p e below s₁ m 161 #[vL vv, .second, vI d14] [(.int (lcmpW vv (1000000000000000 : Int64)))] B_ := fun t_ hh => k55 t_ (by
   refine XS.lloadN X0.here hx rfl (hb hby o_h675) rfl ?_
   refine X0.ldc2Long hx hown (mvT hZ (wT hw 358 rfl)) (g := (mkF m 157 #[vL vv, .second, vI d14] [.long vv])) rfl (hb hby o_h676) _ ?_
   refine XS.lcmp X0.here hx rfl (hb hby o_h677) rfl ?_
   exact hh)
  clear k55
  by_cases c161 : (lcmpW vv (1000000000000000 : Int64)) < 0
  ·
   have k61 : o_J p e below s₁ m 167 #[vL vv, .second, vI d14] [] B_ := fun t_ hh => k60 t_ (by
    refine XS.ifYes X0.here hx rfl (pc0 := 161) (pc' := 167) rfl (hb hby o_h678) rfl (o_ifT_lt c161) (by decide) (by decide) ?_
    exact hh)
   clear k60
   exact ⟨d14, (o_dcT hv (k := 14) (P := 1000000000000000) (by decide) hd14 c161), k61⟩
  ·
   have k62 : o_J p e below s₁ m 167 #[vL vv, .second, vI (d14 + (1 : Int32))] [] B_ := fun t_ hh => k60 t_ (by
    refine XS.ifNo X0.here hx rfl (hb hby o_h678) rfl (o_ifF_lt c161) ?_
    refine XS.iinc X0.here hx rfl (hb hby o_h679) rfl (l' := #[vL vv, .second, vI (d14 + (1 : Int32))]) rfl ?_
    exact hh)
   clear k60
   exact ⟨(d14 + (1 : Int32)), (o_dcF hv (k := 14) (P := 1000000000000000) (by decide) hd14 c161), k62⟩
 obtain ⟨d16, hM36, k63⟩ : ∃ d16 : Int32, (d16 = Int32.ofNat (o_dc vv.toInt.toNat 16)) ∧ o_J p e below s₁ m 178 #[vL vv, .second, vI d16] [] B_ := by
  have hd15 := hM35
  have k64 : o_J p e below s₁ m 172 #[vL vv, .second, vI d15] [(.int (lcmpW vv (10000000000000000 : Int64)))] B_ := fun t_ hh => k59 t_ (by
   refine XS.lloadN X0.here hx rfl (hb hby o_h680) rfl ?_
   refine X0.ldc2Long hx hown (mvT hZ (wT hw 359 rfl)) (g := (mkF m 168 #[vL vv, .second, vI d15] [.long vv])) rfl (hb hby o_h681) _ ?_
   refine XS.lcmp X0.here hx rfl (hb hby o_h682) rfl ?_
   exact hh)
  clear k59
  by_cases c172 : (lcmpW vv (10000000000000000 : Int64)) < 0
  ·
   have k65 : o_J p e below s₁ m 178 #[vL vv, .second, vI d15] [] B_ := fun t_ hh => k64 t_ (by
    refine XS.ifYes X0.here hx rfl (pc0 := 172) (pc' := 178) rfl (hb hby o_h683) rfl (o_ifT_lt c172) (by decide) (by decide) ?_
    exact hh)
   clear k64
   exact ⟨d15, (o_dcT hv (k := 15) (P := 10000000000000000) (by decide) hd15 c172), k65⟩
  ·
   have k66 : o_J p e below s₁ m 178 #[vL vv, .second, vI (d15 + (1 : Int32))] [] B_ := fun t_ hh => k64 t_ (by
    refine XS.ifNo X0.here hx rfl (hb hby o_h683) rfl (o_ifF_lt c172) ?_
    refine XS.iinc X0.here hx rfl (hb hby o_h684) rfl (l' := #[vL vv, .second, vI (d15 + (1 : Int32))]) rfl ?_
    exact hh)
   clear k64
   exact ⟨(d15 + (1 : Int32)), (o_dcF hv (k := 15) (P := 10000000000000000) (by decide) hd15 c172), k66⟩
 obtain ⟨d17, hM37, k67⟩ : ∃ d17 : Int32, (d17 = Int32.ofNat (o_dc vv.toInt.toNat 17)) ∧ o_J p e below s₁ m 189 #[vL vv, .second, vI d17] [] B_ := by
  have hd16 := hM36
  have k68 : o_J p e below s₁ m 183 #[vL vv, .second, vI d16] [(.int (lcmpW vv (100000000000000000 : Int64)))] B_ := fun t_ hh => k63 t_ (by
   refine XS.lloadN X0.here hx rfl (hb hby o_h685) rfl ?_
   refine X0.ldc2Long hx hown (mvT hZ (wT hw 360 rfl)) (g := (mkF m 179 #[vL vv, .second, vI d16] [.long vv])) rfl (hb hby o_h686) _ ?_
   refine XS.lcmp X0.here hx rfl (hb hby o_h687) rfl ?_
   exact hh)
  clear k63
  by_cases c183 : (lcmpW vv (100000000000000000 : Int64)) < 0
  ·
   have k69 : o_J p e below s₁ m 189 #[vL vv, .second, vI d16] [] B_ := fun t_ hh => k68 t_ (by
    refine XS.ifYes X0.here hx rfl (pc0 := 183) (pc' := 189) rfl (hb hby o_h688) rfl (o_ifT_lt c183) (by decide) (by decide) ?_
    exact hh)
   clear k68
   exact ⟨d16, (o_dcT hv (k := 16) (P := 100000000000000000) (by decide) hd16 c183), k69⟩
  ·
   have k70 : o_J p e below s₁ m 189 #[vL vv, .second, vI (d16 + (1 : Int32))] [] B_ := fun t_ hh => k68 t_ (by
    refine XS.ifNo X0.here hx rfl (hb hby o_h688) rfl (o_ifF_lt c183) ?_
    refine XS.iinc X0.here hx rfl (hb hby o_h689) rfl (l' := #[vL vv, .second, vI (d16 + (1 : Int32))]) rfl ?_
    exact hh)
   clear k68
   exact ⟨(d16 + (1 : Int32)), (o_dcF hv (k := 16) (P := 100000000000000000) (by decide) hd16 c183), k70⟩
 obtain ⟨d18, hM38, k71⟩ : ∃ d18 : Int32, (d18 = Int32.ofNat (o_dc vv.toInt.toNat 18)) ∧ o_J p e below s₁ m 200 #[vL vv, .second, vI d18] [] B_ := by
  have hd17 := hM37
  have k72 : o_J p e below s₁ m 194 #[vL vv, .second, vI d17] [(.int (lcmpW vv (1000000000000000000 : Int64)))] B_ := fun t_ hh => k67 t_ (by
   refine XS.lloadN X0.here hx rfl (hb hby o_h690) rfl ?_
   refine X0.ldc2Long hx hown (mvT hZ (wT hw 361 rfl)) (g := (mkF m 190 #[vL vv, .second, vI d17] [.long vv])) rfl (hb hby o_h691) _ ?_
   refine XS.lcmp X0.here hx rfl (hb hby o_h692) rfl ?_
   exact hh)
  clear k67
  by_cases c194 : (lcmpW vv (1000000000000000000 : Int64)) < 0
  ·
   have k73 : o_J p e below s₁ m 200 #[vL vv, .second, vI d17] [] B_ := fun t_ hh => k72 t_ (by
    refine XS.ifYes X0.here hx rfl (pc0 := 194) (pc' := 200) rfl (hb hby o_h693) rfl (o_ifT_lt c194) (by decide) (by decide) ?_
    exact hh)
   clear k72
   exact ⟨d17, (o_dcT hv (k := 17) (P := 1000000000000000000) (by decide) hd17 c194), k73⟩
  ·
   have k74 : o_J p e below s₁ m 200 #[vL vv, .second, vI (d17 + (1 : Int32))] [] B_ := fun t_ hh => k72 t_ (by
    refine XS.ifNo X0.here hx rfl (hb hby o_h693) rfl (o_ifF_lt c194) ?_
    refine XS.iinc X0.here hx rfl (hb hby o_h694) rfl (l' := #[vL vv, .second, vI (d17 + (1 : Int32))]) rfl ?_
    exact hh)
   clear k72
   exact ⟨(d17 + (1 : Int32)), (o_dcF hv (k := 17) (P := 1000000000000000000) (by decide) hd17 c194), k74⟩
 have hd18 := hM38
 have k75 : o_J p e below s₁ m 201 #[vL vv, .second, vI d18] [.int d18] B_ := fun t_ hh => k71 t_ (by
  refine XS.iloadN X0.here hx rfl (hb hby o_h695) rfl ?_
  exact hh)
 clear k71
 obtain ⟨fs, hr, hrun, hended, hW, hsame⟩ := X0.leave (v := some (.int d18)) (fun h => by rw [Bd.returns] at h; cases h)
 refine ⟨_, _, (o_from hB_ (k75 _ (retOut X0 hx (t := .int) Bd.returns rfl (Or.inl ⟨rfl, (by simp), _, rfl⟩) (hb hby o_h696) hr))), hrun, hended, _, _, rfl, ?_, ⟨_, rfl⟩, hW, hsame.mono (o_l rfl) (o_l rfl)⟩
 show Q_rmDi Z vv h0 n0 _ s₁.heap _
 rw [e0]
 exact ⟨(by rw [hd18, o_dc18 hv]), N0, rfl⟩
def QL (h0 : Heap) (n0 : Nat) (v : Option Value) (h : Heap) (L : List Loc) : Prop := v = some (.int 1) ∧ Fr n0 L
theorem o_h697 : parseMethodDescriptor "(I)Ljava/lang/String;" = some ⟨[.int], some (.object oS)⟩ := by decide +kernel
theorem o_h698 : parseMethodDescriptor "(Ljava/lang/String;Ljava/lang/String;J)Lcom/example/aggregate_lock/aggregatelock/outcome/VersionConflictException;" = some ⟨[.object oS, .object oS, .long], some (.object oV)⟩ := by decide +kernel
theorem o_h699 : parseMethodDescriptor "(Ljava/lang/Object;)Z" = some ⟨[.object "java/lang/Object"], some .boolean⟩ := by decide +kernel
theorem o_h700 : parseMethodDescriptor "()J" = some ⟨[], some .long⟩ := by decide +kernel
theorem o_h701 : parseMethodDescriptor "()Ljava/time/Instant;" = some ⟨[], some (.object "java/time/Instant")⟩ := by decide +kernel
theorem o_h702 : parseMethodDescriptor "(I)C" = some ⟨[.int], some .char⟩ := by decide +kernel
theorem rmL (l : Launch) (Z : State) (a0 : Array Value) (hw : ∀ d ∈ tables_1, d.before a0 Z = true) (ws : List Jvm.Cond) (av bv : Int32) (vv : Int64) (h0 : Heap) (n0 : Nat) (Z0 : n0 ≤ h0.size) (O0 : Old Z n0 h0) (ci : Int32) (sC : Sta Z Z.heap oS "COMPACT_STRINGS" "Z" (.int ci)) (hc : ¬ ci = 0) (gv : Value) (sG : Sta Z Z.heap "jdk/internal/util/Preconditions" "SIOOBE_FORMATTER" "Ljava/util/function/BiFunction;" gv) (hg : gv.isRef = true) (eo : Addr) (sE : Sta Z Z.heap "java/util/OptionalLong" "EMPTY" "Ljava/util/OptionalLong;" (.ref eo)) (hdg : o_Dig Z) (xE : Exa Z Z.heap eo "java/util/OptionalLong") (fE : Fld Z Z.heap eo "java/util/OptionalLong" "isPresent" "Z" (.int (0 : Int32))) (hst : l.stackTraces = true) (hr2 : ∀ d ∈ twoRefs, d.before a0 Z = true) :
    MetFree l x (head1 (Jvm.Cond.code x code maxLocals ret :: ws) room_1) (fun ar_ U => ar_ = #[.int av, .int bv, .long vv] ∧ Z.Warmed39 U.vm ∧ U.heap = h0 ∧ CHv Z o_EL U.vm h0) (fun _ _ bl s _ => s.vm.MethodsKnown ∧ s.vm.FramesKnown bl) (fun _ U o U' => ∃ v L, o = .returned v ∧ QL h0 n0 v U'.heap L ∧ ReturnedEndW U o U' L 80 15360) := by
 refine MetFree.of_bodySF (plainFor_of_name o_h334) hisR ?_
 intro p e s m args below meth c s₁ Bd hml0 hP hK
 obtain ⟨rfl, hZ, hh, hCH⟩ := hP
 have hx := Bd.exec
 have hby := Bd.bytes
 have hml : c.maxLocals = 14 := hml0
 have hown : s.vm.findClass oP = some m.cls := findClass_of_methodNamed Bd.named
 have hnm := (name_of_methodNamed Bd.named Bd.method).1
 have hTK := Vm.MethodsKnown.alikeC hZ.alike.symm hK.1
 have hBl := Vm.FramesKnown.alikeC hZ.alike.symm hK.2
 have X0 : Stand p l e room_1 (s.setVm s.vm) m #[.int av, .int bv, .long vv] below meth c s₁ [] 0 0 := Stand.of_body Bd
 have hS0 : s.Since s.vm 0 := (State.WarmedH.refl s).since 0
 have hk0 : 0 ≤ h0.size := Nat.zero_le _
 have hZ : Z.Warmed39 (s.setVm s.vm).vm := hZ
 have hown : (s.setVm s.vm).vm.findClass oP = some m.cls := hown
 have Cr0 : CHr Z o_EL s.vm h0 s.vm h0 := CHr.refl hCH
 have e0 : s₁.heap = h0 := by rw [← hh, Bd.state]; rfl
 have N0 := Fr.nil n0
 obtain ⟨B_, hB_⟩ : ∃ z, z = s₁.setTop (entryFrame m #[.int av, .int bv, .long vv] maxLocals) := ⟨_, rfl⟩
 have k0 : o_K p e below (s₁.setTop (mkF m 0 #[.val (.int av), .val (.int bv), .val (.long vv), .second, .unset, .unset, .unset, .unset, .unset, .unset, .unset, .unset, .unset, .unset] [])) B_ := by rw [hB_]; exact fun t k => castTop (by clear k; first | (simp [entryFrame, mkF, argsToLocals, Value.category, maxLocals]; done) | rfl) k
 have EO := Exa.ext (h' := h0) O0.2 xE
 have FO := Fld.ext (h' := h0) O0.2 fE
 have k1 : o_J p e below s₁ m 1 #[vI av, vI bv, vL vv, .second, .unset, .unset, .unset, .unset, .unset, .unset, .unset, .unset, .unset, .unset] [.int av] B_ := fun t_ hh => k0 t_ (by
  refine XS.iloadN X0.here hx rfl (hb hby at_0) rfl ?_
  exact hh)
 obtain ⟨_, _, ⟨T21, L22, k_23, n_24⟩, -, X25, hSc32, hgr33, ⟨Lc26, hQ27, l_28, y_29, z_30, C34⟩, st31⟩ := callSS X0 hx (y := ⟨oP, "mk", "(I)Ljava/lang/String;"⟩) hown (mvT hZ (wT hw 0 rfl)) (mvT hZ (wT hw 1 rfl)) (mvT hZ (wT hw 2 rfl)) (mvT hZ (wT hw 3 rfl)) (by decide) (backOfSH (W := 0) (rmMk l Z a0 hw [] av h0 n0 Z0 O0 ci sC hc) hZ (wT hw 3 rfl) (wT hw 2 rfl) (by decide) (by decide) (o_EW hw) Cr0.1) (g := (mkF m 1 #[vI av, vI bv, vL vv, .second, .unset, .unset, .unset, .unset, .unset, .unset, .unset, .unset, .unset, .unset] [.int av])) rfl (by rw [hml]; rfl) (argsL := [.int av]) (rest := []) (lenOf o_h697 rfl) rfl (o_w0 rfl) (hb hby at_1) (fun _ _ => ⟨rfl, e0, o_l rfl, o_l rfl⟩)
 dsimp only [Pt.U, Pt.locs, Pt.cells, Pt.slots] at X25 hSc32 hgr33 l_28 y_29 z_30 st31 hQ27 C34
 subst l_28 y_29 z_30
 obtain ⟨X35, hS36, hZ37, hown38⟩ := rebS hS0 (by rw [e0]; exact hk0) X25 hSc32 hgr33 hZ hown
 have Cr39 := Cr0.trans C34
 obtain ⟨r41, tr42, kr43, ms44, rfl, N40, K50, F45, F46, F47, F48, F49, -⟩ := hQ27
 have N51 := Fr.app N0 N40
 have F52 := EO.keep K50
 have F53 := FO.keep K50 nin0
 have Z54 : n0 ≤ T21.heap.size := Nat.le_trans Z0 K50.1
 have hk55 := Nat.le_trans hk0 K50.1
 have O56 := O0.keep K50 all0
 have e57 : T21.heap = T21.heap := rfl
 have k2 : o_J p e below T21 m 4 #[vI av, vI bv, vL vv, .second, .unset, .unset, .unset, .unset, .unset, .unset, .unset, .unset, .unset, .unset] [.ref r41] B_ := fun t_ hh => k1 t_ (st31.trans hh)
 clear k1 st31
 have k3 : o_J p e below T21 m 7 #[vI av, vI bv, vL vv, .second, vR r41, .unset, .unset, .unset, .unset, .unset, .unset, .unset, .unset, .unset] [.int bv] B_ := fun t_ hh => k2 t_ (by
  refine XS.astore X35.here hx rfl (hb hby at_4) rfl rfl (l' := #[vI av, vI bv, vL vv, .second, vR r41, .unset, .unset, .unset, .unset, .unset, .unset, .unset, .unset, .unset]) rfl ?_
  refine XS.iloadN X35.here hx rfl (hb hby at_6) rfl ?_
  exact hh)
 clear k2
 obtain ⟨_, _, ⟨T58, L59, k_60, n_61⟩, -, X62, hSc69, hgr70, ⟨Lc63, hQ64, l_65, y_66, z_67, C71⟩, st68⟩ := callSS X35 hx (y := ⟨oP, "mk", "(I)Ljava/lang/String;"⟩) hown38 (mvT hZ37 (wT hw 0 rfl)) (mvT hZ37 (wT hw 1 rfl)) (mvT hZ37 (wT hw 2 rfl)) (mvT hZ37 (wT hw 3 rfl)) (by decide) (backOfSH (W := 0) (rmMk l Z a0 hw [] bv T21.heap n0 Z54 O56 ci sC hc) hZ37 (wT hw 3 rfl) (wT hw 2 rfl) (by decide) (by decide) (o_EW hw) Cr39.1) (g := (mkF m 7 #[vI av, vI bv, vL vv, .second, vR r41, .unset, .unset, .unset, .unset, .unset, .unset, .unset, .unset, .unset] [.int bv])) rfl (by rw [hml]; rfl) (argsL := [.int bv]) (rest := []) (lenOf o_h697 rfl) rfl (o_w0 rfl) (hb hby at_7) (fun _ _ => ⟨rfl, e57, o_l rfl, o_l rfl⟩)
 dsimp only [Pt.U, Pt.locs, Pt.cells, Pt.slots] at X62 hSc69 hgr70 l_65 y_66 z_67 st68 hQ64 C71
 subst l_65 y_66 z_67
 obtain ⟨X72, hS73, hZ74, hown75⟩ := rebS hS36 (by rw [e57]; exact (Nat.le_refl T21.heap.size)) X62 hSc69 hgr70 hZ37 hown38
 have Cr76 := Cr39.trans C71
 obtain ⟨r78, tr79, kr80, ms81, rfl, N77, K87, F82, F83, F84, F85, F86, -⟩ := hQ64
 have N88 := Fr.app N51 N77
 have F89 := F52.keep K87
 have F90 := F53.keep K87 nin0
 have F91 := F45.keep K87
 have F92 := F46.keep K87 nin0
 have F93 := F47.keep K87 nin0
 have F94 := F48.keep K87 nin0
 have Z95 : n0 ≤ T58.heap.size := Nat.le_trans Z54 K87.1
 have hk96 := Nat.le_trans (Nat.le_refl T21.heap.size) K87.1
 have O97 := O56.keep K87 all0
 have e98 : T58.heap = T58.heap := rfl
 have k4 : o_J p e below T58 m 10 #[vI av, vI bv, vL vv, .second, vR r41, .unset, .unset, .unset, .unset, .unset, .unset, .unset, .unset, .unset] [.ref r78] B_ := fun t_ hh => k3 t_ (st68.trans hh)
 clear k3 st68 X35 e57
 have k5 : o_J p e below T58 m 17 #[vI av, vI bv, vL vv, .second, vR r41, vR r78, .unset, .unset, .unset, .unset, .unset, .unset, .unset, .unset] [.long vv, .ref r78, .ref r41] B_ := fun t_ hh => k4 t_ (by
  refine XS.astore X72.here hx rfl (hb hby at_10) rfl rfl (l' := #[vI av, vI bv, vL vv, .second, vR r41, vR r78, .unset, .unset, .unset, .unset, .unset, .unset, .unset, .unset]) rfl ?_
  refine XS.aload X72.here hx rfl (hb hby at_12) rfl rfl ?_
  refine XS.aload X72.here hx rfl (hb hby at_14) rfl rfl ?_
  refine XS.lloadN X72.here hx rfl (hb hby at_16) rfl ?_
  exact hh)
 clear k4
 obtain ⟨_, _, ⟨T99, L100, k_101, n_102⟩, -, X103, hSc110, hgr111, ⟨Lc104, hQ105, l_106, y_107, z_108, C112⟩, st109⟩ := callSS X72 hx (y := ⟨oV, "neverCreated", "(Ljava/lang/String;Ljava/lang/String;J)Lcom/example/aggregate_lock/aggregatelock/outcome/VersionConflictException;"⟩) hown75 (mvT hZ74 (wT hw 26 rfl)) (mvT hZ74 (wT hw 27 rfl)) (mvT hZ74 (wT hw 28 rfl)) (mvT hZ74 (wT hw 29 rfl)) (by decide) (backOfSKH (W := 0) (rmNv l Z a0 hw [] r41 tr42 kr43 ms44 r78 tr79 kr80 ms81 vv T58.heap n0 Z95 F91 F92 F93 F94 F49.1 F82 F83 F84 F85 F86.1 O97 hst hr2 ci sC hc hdg) hZ74 (wT hw 29 rfl) (wT hw 28 rfl) (by decide) (by decide) (o_EW hw) Cr76.1 (Vm.MethodsKnown.alikeC hZ74.alike hTK) (Vm.FramesKnown.alikeC hZ74.alike hBl)) (g := (mkF m 17 #[vI av, vI bv, vL vv, .second, vR r41, vR r78, .unset, .unset, .unset, .unset, .unset, .unset, .unset, .unset] [.long vv, .ref r78, .ref r41])) rfl (by rw [hml]; rfl) (argsL := [.ref r41, .ref r78, .long vv]) (rest := []) (lenOf o_h698 rfl) rfl (o_w0 rfl) (hb hby at_17) (fun _ _ => ⟨rfl, e98, o_l rfl, o_l rfl⟩)
 dsimp only [Pt.U, Pt.locs, Pt.cells, Pt.slots] at X103 hSc110 hgr111 l_106 y_107 z_108 st109 hQ105 C112
 subst l_106 y_107 z_108
 obtain ⟨X113, hS114, hZ115, hown116⟩ := rebS hS73 (by rw [e98]; exact (Nat.le_refl T58.heap.size)) X103 hSc110 hgr111 hZ74 hown75
 have Cr117 := Cr76.trans C112
 obtain ⟨ex119, mm120, tm121, km122, ms123, rfl, N118, K138, F124, F125, F126, F127, F128, F129, F130, F131, F132, F133, F134, F135, F136, F137, -⟩ := hQ105
 have N139 := Fr.app N88 N118
 have F140 := F89.keep K138
 have F141 := F90.keep K138 nin0
 have F142 := F91.keep K138
 have F143 := F92.keep K138 nin0
 have F144 := F93.keep K138 nin0
 have F145 := F94.keep K138 nin0
 have F146 := F82.keep K138
 have F147 := F83.keep K138 nin0
 have F148 := F84.keep K138 nin0
 have F149 := F85.keep K138 nin0
 have Z150 : n0 ≤ T99.heap.size := Nat.le_trans Z95 K138.1
 have hk151 := Nat.le_trans (Nat.le_refl T58.heap.size) K138.1
 have O152 := O97.keep K138 all0
 have e153 : T99.heap = T99.heap := rfl
 have k6 : o_J p e below T99 m 20 #[vI av, vI bv, vL vv, .second, vR r41, vR r78, .unset, .unset, .unset, .unset, .unset, .unset, .unset, .unset] [.ref ex119] B_ := fun t_ hh => k5 t_ (st109.trans hh)
 clear k5 st109 X72 e98
 have k7 : o_J p e below T99 m 26 #[vI av, vI bv, vL vv, .second, vR r41, vR r78, vR ex119, .unset, .unset, .unset, .unset, .unset, .unset, .unset] [.ref ex119, .ref r41] B_ := fun t_ hh => k6 t_ (by
  refine XS.astore X113.here hx rfl (hb hby at_20) rfl rfl (l' := #[vI av, vI bv, vL vv, .second, vR r41, vR r78, vR ex119, .unset, .unset, .unset, .unset, .unset, .unset, .unset]) rfl ?_
  refine XS.aload X113.here hx rfl (hb hby at_22) rfl rfl ?_
  refine XS.aload X113.here hx rfl (hb hby at_24) rfl rfl ?_
  exact hh)
 clear k6
 obtain ⟨cq165, kq166, qa167, qb168, qc169⟩ := isOf hZ115 e153 F124
 obtain ⟨_, _, ⟨T154, L155, k_156, n_157⟩, -, X158, ⟨Lc159, hQ160, l_161, y_162, z_163⟩, st164⟩ := X113.virtualBack hx (y := ⟨oV, "type", "()Ljava/lang/String;"⟩) (z := ⟨oV, "type", "()Ljava/lang/String;"⟩) hown116 (mvT hZ115 (wT hw 282 rfl)) (mvT hZ115 (wT hw 283 rfl)) (notFace_of_selects (args := #[]) (mvT hZ115 (wT hw 285 rfl))) (mvT hZ115 (wT hw 285 rfl)) (mvT hZ115 (wT hw 284 rfl)) (by decide) (backOf (W := 1) (rmTy l Z a0 hw [] ex119 r41 T99.heap n0 Z150 F126 ) hZ115 (wT hw 286 rfl) (wT hw 28 rfl) (by decide) (by decide)) qa167 qc169 (g := (mkF m 26 #[vI av, vI bv, vL vv, .second, vR r41, vR r78, vR ex119, .unset, .unset, .unset, .unset, .unset, .unset, .unset] [.ref ex119, .ref r41])) rfl (by rw [hml]; rfl) (Steps.refl _) (argsL := []) (rest := [.ref r41]) (lenOf o_h419 rfl) rfl (o_w0 rfl) (hb hby at_26) (fun _ _ => ⟨rfl, e153, o_l rfl, o_l rfl⟩)
 dsimp only [Pt.U, Pt.locs, Pt.cells, Pt.slots] at X158 l_161 y_162 z_163 st164 hQ160
 subst l_161 y_162 z_163
 obtain ⟨rfl, N170, e171⟩ := hQ160
 have N172 := Fr.app N139 N170
 have k8 : o_J p e below T154 m 29 #[vI av, vI bv, vL vv, .second, vR r41, vR r78, vR ex119, .unset, .unset, .unset, .unset, .unset, .unset, .unset] [.ref r41, .ref r41] B_ := fun t_ hh => k7 t_ (st164.trans hh)
 clear k7 st164 X113 e153
 obtain ⟨cq184, kq185, qa186, qb187, qc188⟩ := isOf hZ115 e171 F142
 obtain ⟨_, _, ⟨T173, L174, k_175, n_176⟩, -, X177, ⟨Lc178, hQ179, l_180, y_181, z_182⟩, st183⟩ := X158.virtualBack hx (y := ⟨oS, "equals", "(Ljava/lang/Object;)Z"⟩) (z := ⟨oS, "equals", "(Ljava/lang/Object;)Z"⟩) hown116 (mvT hZ115 (wT hw 287 rfl)) (mvT hZ115 (wT hw 288 rfl)) (notFace_of_selects (args := #[]) (mvT hZ115 (wT hw 290 rfl))) (mvT hZ115 (wT hw 290 rfl)) (mvT hZ115 (wT hw 289 rfl)) (by decide) (backOf (W := 0) (rmEq l Z a0 hw [] r41 T99.heap n0 Z150  ) hZ115 (wT hw 291 rfl) (wT hw 6 rfl) (by decide) (by decide)) qa186 qc188 (g := (mkF m 29 #[vI av, vI bv, vL vv, .second, vR r41, vR r78, vR ex119, .unset, .unset, .unset, .unset, .unset, .unset, .unset] [.ref r41, .ref r41])) rfl (by rw [hml]; rfl) (Steps.refl _) (argsL := [.ref r41]) (rest := []) (lenOf o_h699 rfl) rfl (o_w0 rfl) (hb hby at_29) (fun _ _ => ⟨rfl, e171, o_l rfl, o_l rfl⟩)
 dsimp only [Pt.U, Pt.locs, Pt.cells, Pt.slots] at X177 l_180 y_181 z_182 st183 hQ179
 subst l_180 y_181 z_182
 obtain ⟨rfl, N189, e190⟩ := hQ179
 have N191 := Fr.app N172 N189
 have k9 : o_J p e below T173 m 32 #[vI av, vI bv, vL vv, .second, vR r41, vR r78, vR ex119, .unset, .unset, .unset, .unset, .unset, .unset, .unset] [(.int 1)] B_ := fun t_ hh => k8 t_ (st183.trans hh)
 clear k8 st183 X158 e171
 have k10 : o_J p e below T173 m 39 #[vI av, vI bv, vL vv, .second, vR r41, vR r78, vR ex119, .unset, .unset, .unset, .unset, .unset, .unset, .unset] [.ref ex119, .ref r78] B_ := fun t_ hh => k9 t_ (by
  refine XS.ifNo X177.here hx rfl (hb hby at_32) rfl (by decide) ?_
  refine XS.aload X177.here hx rfl (hb hby at_35) rfl rfl ?_
  refine XS.aload X177.here hx rfl (hb hby at_37) rfl rfl ?_
  exact hh)
 clear k9
 obtain ⟨cq203, kq204, qa205, qb206, qc207⟩ := isOf hZ115 e190 F124
 obtain ⟨_, _, ⟨T192, L193, k_194, n_195⟩, -, X196, ⟨Lc197, hQ198, l_199, y_200, z_201⟩, st202⟩ := X177.virtualBack hx (y := ⟨oV, "id", "()Ljava/lang/String;"⟩) (z := ⟨oV, "id", "()Ljava/lang/String;"⟩) hown116 (mvT hZ115 (wT hw 292 rfl)) (mvT hZ115 (wT hw 293 rfl)) (notFace_of_selects (args := #[]) (mvT hZ115 (wT hw 295 rfl))) (mvT hZ115 (wT hw 295 rfl)) (mvT hZ115 (wT hw 294 rfl)) (by decide) (backOf (W := 1) (rmId l Z a0 hw [] ex119 r78 T99.heap n0 Z150 F127 ) hZ115 (wT hw 296 rfl) (wT hw 28 rfl) (by decide) (by decide)) qa205 qc207 (g := (mkF m 39 #[vI av, vI bv, vL vv, .second, vR r41, vR r78, vR ex119, .unset, .unset, .unset, .unset, .unset, .unset, .unset] [.ref ex119, .ref r78])) rfl (by rw [hml]; rfl) (Steps.refl _) (argsL := []) (rest := [.ref r78]) (lenOf o_h419 rfl) rfl (o_w0 rfl) (hb hby at_39) (fun _ _ => ⟨rfl, e190, o_l rfl, o_l rfl⟩)
 dsimp only [Pt.U, Pt.locs, Pt.cells, Pt.slots] at X196 l_199 y_200 z_201 st202 hQ198
 subst l_199 y_200 z_201
 obtain ⟨rfl, N208, e209⟩ := hQ198
 have N210 := Fr.app N191 N208
 have k11 : o_J p e below T192 m 42 #[vI av, vI bv, vL vv, .second, vR r41, vR r78, vR ex119, .unset, .unset, .unset, .unset, .unset, .unset, .unset] [.ref r78, .ref r78] B_ := fun t_ hh => k10 t_ (st202.trans hh)
 clear k10 st202 X177 e190
 obtain ⟨cq222, kq223, qa224, qb225, qc226⟩ := isOf hZ115 e209 F146
 obtain ⟨_, _, ⟨T211, L212, k_213, n_214⟩, -, X215, ⟨Lc216, hQ217, l_218, y_219, z_220⟩, st221⟩ := X196.virtualBack hx (y := ⟨oS, "equals", "(Ljava/lang/Object;)Z"⟩) (z := ⟨oS, "equals", "(Ljava/lang/Object;)Z"⟩) hown116 (mvT hZ115 (wT hw 287 rfl)) (mvT hZ115 (wT hw 288 rfl)) (notFace_of_selects (args := #[]) (mvT hZ115 (wT hw 290 rfl))) (mvT hZ115 (wT hw 290 rfl)) (mvT hZ115 (wT hw 289 rfl)) (by decide) (backOf (W := 0) (rmEq l Z a0 hw [] r78 T99.heap n0 Z150  ) hZ115 (wT hw 291 rfl) (wT hw 6 rfl) (by decide) (by decide)) qa224 qc226 (g := (mkF m 42 #[vI av, vI bv, vL vv, .second, vR r41, vR r78, vR ex119, .unset, .unset, .unset, .unset, .unset, .unset, .unset] [.ref r78, .ref r78])) rfl (by rw [hml]; rfl) (Steps.refl _) (argsL := [.ref r78]) (rest := []) (lenOf o_h699 rfl) rfl (o_w0 rfl) (hb hby at_42) (fun _ _ => ⟨rfl, e209, o_l rfl, o_l rfl⟩)
 dsimp only [Pt.U, Pt.locs, Pt.cells, Pt.slots] at X215 l_218 y_219 z_220 st221 hQ217
 subst l_218 y_219 z_220
 obtain ⟨rfl, N227, e228⟩ := hQ217
 have N229 := Fr.app N210 N227
 have k12 : o_J p e below T211 m 45 #[vI av, vI bv, vL vv, .second, vR r41, vR r78, vR ex119, .unset, .unset, .unset, .unset, .unset, .unset, .unset] [(.int 1)] B_ := fun t_ hh => k11 t_ (st221.trans hh)
 clear k11 st221 X196 e209
 have k13 : o_J p e below T211 m 52 #[vI av, vI bv, vL vv, .second, vR r41, vR r78, vR ex119, .unset, .unset, .unset, .unset, .unset, .unset, .unset] [.ref ex119] B_ := fun t_ hh => k12 t_ (by
  refine XS.ifYes X215.here hx rfl (pc0 := 45) (pc' := 50) rfl (hb hby at_45) rfl (by decide) (by decide) (by decide) ?_
  refine XS.aload X215.here hx rfl (hb hby at_50) rfl rfl ?_
  exact hh)
 clear k12
 obtain ⟨cq241, kq242, qa243, qb244, qc245⟩ := isOf hZ115 e228 F124
 obtain ⟨_, _, ⟨T230, L231, k_232, n_233⟩, -, X234, ⟨Lc235, hQ236, l_237, y_238, z_239⟩, st240⟩ := X215.virtualBack hx (y := ⟨oV, "expectedVersion", "()J"⟩) (z := ⟨oV, "expectedVersion", "()J"⟩) hown116 (mvT hZ115 (wT hw 297 rfl)) (mvT hZ115 (wT hw 298 rfl)) (notFace_of_selects (args := #[]) (mvT hZ115 (wT hw 300 rfl))) (mvT hZ115 (wT hw 300 rfl)) (mvT hZ115 (wT hw 299 rfl)) (by decide) (backOf (W := 0) (rmEv l Z a0 hw [] ex119 vv T99.heap n0 Z150 F128 ) hZ115 (wT hw 301 rfl) (wT hw 28 rfl) (by decide) (by decide)) qa243 qc245 (g := (mkF m 52 #[vI av, vI bv, vL vv, .second, vR r41, vR r78, vR ex119, .unset, .unset, .unset, .unset, .unset, .unset, .unset] [.ref ex119])) rfl (by rw [hml]; rfl) (Steps.refl _) (argsL := []) (rest := []) (lenOf o_h700 rfl) rfl (o_w0 rfl) (hb hby at_52) (fun _ _ => ⟨rfl, e228, o_l rfl, o_l rfl⟩)
 dsimp only [Pt.U, Pt.locs, Pt.cells, Pt.slots] at X234 l_237 y_238 z_239 st240 hQ236
 subst l_237 y_238 z_239
 obtain ⟨rfl, N246, e247⟩ := hQ236
 have N248 := Fr.app N229 N246
 have k14 : o_J p e below T230 m 55 #[vI av, vI bv, vL vv, .second, vR r41, vR r78, vR ex119, .unset, .unset, .unset, .unset, .unset, .unset, .unset] [.long vv] B_ := fun t_ hh => k13 t_ (st240.trans hh)
 clear k13 st240 X215 e228
 have k15 : o_J p e below T230 m 64 #[vI av, vI bv, vL vv, .second, vR r41, vR r78, vR ex119, .unset, .unset, .unset, .unset, .unset, .unset, .unset] [.ref ex119] B_ := fun t_ hh => k14 t_ (by
  refine XS.lloadN X234.here hx rfl (hb hby at_55) rfl ?_
  refine XS.lcmp X234.here hx rfl (hb hby at_56) rfl ?_
  refine XS.ifYes X234.here hx rfl (pc0 := 57) (pc' := 62) rfl (hb hby at_57) rfl (o_ifT_eq o_lcmp_self) (by decide) (by decide) ?_
  refine XS.aload X234.here hx rfl (hb hby at_62) rfl rfl ?_
  exact hh)
 clear k14
 obtain ⟨cq260, kq261, qa262, qb263, qc264⟩ := isOf hZ115 e247 F124
 obtain ⟨_, _, ⟨T249, L250, k_251, n_252⟩, -, X253, ⟨Lc254, hQ255, l_256, y_257, z_258⟩, st259⟩ := X234.virtualBack hx (y := ⟨oV, "currentVersion", "()Ljava/util/OptionalLong;"⟩) (z := ⟨oV, "currentVersion", "()Ljava/util/OptionalLong;"⟩) hown116 (mvT hZ115 (wT hw 302 rfl)) (mvT hZ115 (wT hw 303 rfl)) (notFace_of_selects (args := #[]) (mvT hZ115 (wT hw 305 rfl))) (mvT hZ115 (wT hw 305 rfl)) (mvT hZ115 (wT hw 304 rfl)) (by decide) (backOf (W := 0) (rmCv l Z a0 hw [] ex119 eo T99.heap n0 Z150 F129 O152 sE) hZ115 (wT hw 306 rfl) (wT hw 28 rfl) (by decide) (by decide)) qa262 qc264 (g := (mkF m 64 #[vI av, vI bv, vL vv, .second, vR r41, vR r78, vR ex119, .unset, .unset, .unset, .unset, .unset, .unset, .unset] [.ref ex119])) rfl (by rw [hml]; rfl) (Steps.refl _) (argsL := []) (rest := []) (lenOf o_h592 rfl) rfl (o_w0 rfl) (hb hby at_64) (fun _ _ => ⟨rfl, e247, o_l rfl, o_l rfl⟩)
 dsimp only [Pt.U, Pt.locs, Pt.cells, Pt.slots] at X253 l_256 y_257 z_258 st259 hQ255
 subst l_256 y_257 z_258
 obtain ⟨rfl, N265, e266⟩ := hQ255
 have N267 := Fr.app N248 N265
 have k16 : o_J p e below T249 m 67 #[vI av, vI bv, vL vv, .second, vR r41, vR r78, vR ex119, .unset, .unset, .unset, .unset, .unset, .unset, .unset] [.ref eo] B_ := fun t_ hh => k15 t_ (st259.trans hh)
 clear k15 st259 X234 e247
 obtain ⟨cq279, kq280, qa281, qb282, qc283⟩ := isOf hZ115 e266 F140
 obtain ⟨_, _, ⟨T268, L269, k_270, n_271⟩, -, X272, ⟨Lc273, hQ274, l_275, y_276, z_277⟩, st278⟩ := X253.virtualBack hx (y := ⟨"java/util/OptionalLong", "isPresent", "()Z"⟩) (z := ⟨"java/util/OptionalLong", "isPresent", "()Z"⟩) hown116 (mvT hZ115 (wT hw 312 rfl)) (mvT hZ115 (wT hw 313 rfl)) (notFace_of_selects (args := #[]) (mvT hZ115 (wT hw 315 rfl))) (mvT hZ115 (wT hw 315 rfl)) (mvT hZ115 (wT hw 314 rfl)) (by decide) (backOf (W := 0) (rmIp l Z a0 hw [] eo T99.heap n0 Z150 F141 ) hZ115 (wT hw 316 rfl) (wT hw 309 rfl) (by decide) (by decide)) qa281 qc283 (g := (mkF m 67 #[vI av, vI bv, vL vv, .second, vR r41, vR r78, vR ex119, .unset, .unset, .unset, .unset, .unset, .unset, .unset] [.ref eo])) rfl (by rw [hml]; rfl) (Steps.refl _) (argsL := []) (rest := []) (lenOf o_h287 rfl) rfl (o_w0 rfl) (hb hby at_67) (fun _ _ => ⟨rfl, e266, o_l rfl, o_l rfl⟩)
 dsimp only [Pt.U, Pt.locs, Pt.cells, Pt.slots] at X272 l_275 y_276 z_277 st278 hQ274
 subst l_275 y_276 z_277
 obtain ⟨rfl, N284, e285⟩ := hQ274
 have N286 := Fr.app N267 N284
 have k17 : o_J p e below T268 m 70 #[vI av, vI bv, vL vv, .second, vR r41, vR r78, vR ex119, .unset, .unset, .unset, .unset, .unset, .unset, .unset] [(.int 0)] B_ := fun t_ hh => k16 t_ (st278.trans hh)
 clear k16 st278 X253 e266
 have k18 : o_J p e below T268 m 77 #[vI av, vI bv, vL vv, .second, vR r41, vR r78, vR ex119, .unset, .unset, .unset, .unset, .unset, .unset, .unset] [.ref ex119] B_ := fun t_ hh => k17 t_ (by
  refine XS.ifYes X272.here hx rfl (pc0 := 70) (pc' := 75) rfl (hb hby at_70) rfl (by decide) (by decide) (by decide) ?_
  refine XS.aload X272.here hx rfl (hb hby at_75) rfl rfl ?_
  exact hh)
 clear k17
 obtain ⟨cq298, kq299, qa300, qb301, qc302⟩ := isOf hZ115 e285 F124
 obtain ⟨_, _, ⟨T287, L288, k_289, n_290⟩, -, X291, ⟨Lc292, hQ293, l_294, y_295, z_296⟩, st297⟩ := X272.virtualBack hx (y := ⟨oV, "changedBy", "()Ljava/lang/String;"⟩) (z := ⟨oV, "changedBy", "()Ljava/lang/String;"⟩) hown116 (mvT hZ115 (wT hw 319 rfl)) (mvT hZ115 (wT hw 320 rfl)) (notFace_of_selects (args := #[]) (mvT hZ115 (wT hw 322 rfl))) (mvT hZ115 (wT hw 322 rfl)) (mvT hZ115 (wT hw 321 rfl)) (by decide) (backOf (W := 0) (rmCb l Z a0 hw [] ex119 T99.heap n0 Z150 F130 ) hZ115 (wT hw 323 rfl) (wT hw 28 rfl) (by decide) (by decide)) qa300 qc302 (g := (mkF m 77 #[vI av, vI bv, vL vv, .second, vR r41, vR r78, vR ex119, .unset, .unset, .unset, .unset, .unset, .unset, .unset] [.ref ex119])) rfl (by rw [hml]; rfl) (Steps.refl _) (argsL := []) (rest := []) (lenOf o_h419 rfl) rfl (o_w0 rfl) (hb hby at_77) (fun _ _ => ⟨rfl, e285, o_l rfl, o_l rfl⟩)
 dsimp only [Pt.U, Pt.locs, Pt.cells, Pt.slots] at X291 l_294 y_295 z_296 st297 hQ293
 subst l_294 y_295 z_296
 obtain ⟨rfl, N303, e304⟩ := hQ293
 have N305 := Fr.app N286 N303
 have k19 : o_J p e below T287 m 80 #[vI av, vI bv, vL vv, .second, vR r41, vR r78, vR ex119, .unset, .unset, .unset, .unset, .unset, .unset, .unset] [.null] B_ := fun t_ hh => k18 t_ (st297.trans hh)
 clear k18 st297 X272 e285
 have k20 : o_J p e below T287 m 85 #[vI av, vI bv, vL vv, .second, vR r41, vR r78, vR ex119, .unset, .unset, .unset, .unset, .unset, .unset, .unset] [.ref ex119] B_ := fun t_ hh => k19 t_ (by
  refine XS.ifnonnullNo X291.here hx rfl (hb hby at_80) rfl ?_
  refine XS.aload X291.here hx rfl (hb hby at_83) rfl rfl ?_
  exact hh)
 clear k19
 obtain ⟨cq317, kq318, qa319, qb320, qc321⟩ := isOf hZ115 e304 F124
 obtain ⟨_, _, ⟨T306, L307, k_308, n_309⟩, -, X310, ⟨Lc311, hQ312, l_313, y_314, z_315⟩, st316⟩ := X291.virtualBack hx (y := ⟨oV, "changedAt", "()Ljava/time/Instant;"⟩) (z := ⟨oV, "changedAt", "()Ljava/time/Instant;"⟩) hown116 (mvT hZ115 (wT hw 324 rfl)) (mvT hZ115 (wT hw 325 rfl)) (notFace_of_selects (args := #[]) (mvT hZ115 (wT hw 327 rfl))) (mvT hZ115 (wT hw 327 rfl)) (mvT hZ115 (wT hw 326 rfl)) (by decide) (backOf (W := 0) (rmCt l Z a0 hw [] ex119 T99.heap n0 Z150 F131 ) hZ115 (wT hw 328 rfl) (wT hw 28 rfl) (by decide) (by decide)) qa319 qc321 (g := (mkF m 85 #[vI av, vI bv, vL vv, .second, vR r41, vR r78, vR ex119, .unset, .unset, .unset, .unset, .unset, .unset, .unset] [.ref ex119])) rfl (by rw [hml]; rfl) (Steps.refl _) (argsL := []) (rest := []) (lenOf o_h701 rfl) rfl (o_w0 rfl) (hb hby at_85) (fun _ _ => ⟨rfl, e304, o_l rfl, o_l rfl⟩)
 dsimp only [Pt.U, Pt.locs, Pt.cells, Pt.slots] at X310 l_313 y_314 z_315 st316 hQ312
 subst l_313 y_314 z_315
 obtain ⟨rfl, N322, e323⟩ := hQ312
 have N324 := Fr.app N305 N322
 have k21 : o_J p e below T306 m 88 #[vI av, vI bv, vL vv, .second, vR r41, vR r78, vR ex119, .unset, .unset, .unset, .unset, .unset, .unset, .unset] [.null] B_ := fun t_ hh => k20 t_ (st316.trans hh)
 clear k20 st316 X291 e304
 have k22 : o_J p e below T306 m 93 #[vI av, vI bv, vL vv, .second, vR r41, vR r78, vR ex119, .unset, .unset, .unset, .unset, .unset, .unset, .unset] [.ref ex119] B_ := fun t_ hh => k21 t_ (by
  refine XS.ifnonnullNo X310.here hx rfl (hb hby at_88) rfl ?_
  refine XS.aload X310.here hx rfl (hb hby at_91) rfl rfl ?_
  exact hh)
 clear k21
 obtain ⟨cq336, kq337, qa338, qb339, qc340⟩ := isOf hZ115 e323 F124
 obtain ⟨_, _, ⟨T325, L326, k_327, n_328⟩, -, X329, ⟨Lc330, hQ331, l_332, y_333, z_334⟩, st335⟩ := X310.virtualBack hx (y := ⟨oV, "deleted", "()Z"⟩) (z := ⟨oV, "deleted", "()Z"⟩) hown116 (mvT hZ115 (wT hw 329 rfl)) (mvT hZ115 (wT hw 330 rfl)) (notFace_of_selects (args := #[]) (mvT hZ115 (wT hw 332 rfl))) (mvT hZ115 (wT hw 332 rfl)) (mvT hZ115 (wT hw 331 rfl)) (by decide) (backOf (W := 0) (rmDe l Z a0 hw [] ex119 T99.heap n0 Z150 F132 ) hZ115 (wT hw 333 rfl) (wT hw 28 rfl) (by decide) (by decide)) qa338 qc340 (g := (mkF m 93 #[vI av, vI bv, vL vv, .second, vR r41, vR r78, vR ex119, .unset, .unset, .unset, .unset, .unset, .unset, .unset] [.ref ex119])) rfl (by rw [hml]; rfl) (Steps.refl _) (argsL := []) (rest := []) (lenOf o_h287 rfl) rfl (o_w0 rfl) (hb hby at_93) (fun _ _ => ⟨rfl, e323, o_l rfl, o_l rfl⟩)
 dsimp only [Pt.U, Pt.locs, Pt.cells, Pt.slots] at X329 l_332 y_333 z_334 st335 hQ331
 subst l_332 y_333 z_334
 obtain ⟨rfl, N341, e342⟩ := hQ331
 have N343 := Fr.app N324 N341
 have k23 : o_J p e below T325 m 96 #[vI av, vI bv, vL vv, .second, vR r41, vR r78, vR ex119, .unset, .unset, .unset, .unset, .unset, .unset, .unset] [(.int 0)] B_ := fun t_ hh => k22 t_ (st335.trans hh)
 clear k22 st335 X310 e323
 have k24 : o_J p e below T325 m 103 #[vI av, vI bv, vL vv, .second, vR r41, vR r78, vR ex119, .unset, .unset, .unset, .unset, .unset, .unset, .unset] [.ref ex119] B_ := fun t_ hh => k23 t_ (by
  refine XS.ifYes X329.here hx rfl (pc0 := 96) (pc' := 101) rfl (hb hby at_96) rfl (by decide) (by decide) (by decide) ?_
  refine XS.aload X329.here hx rfl (hb hby at_101) rfl rfl ?_
  exact hh)
 clear k23
 obtain ⟨cq355, kq356, qa357, qb358, qc359⟩ := isOf hZ115 e342 F124
 obtain ⟨_, _, ⟨T344, L345, k_346, n_347⟩, -, X348, ⟨Lc349, hQ350, l_351, y_352, z_353⟩, st354⟩ := X329.virtualBackUp hx (owner := oT) (x := ⟨oV, "getMessage", "()Ljava/lang/String;"⟩) (y := ⟨oT, "getMessage", "()Ljava/lang/String;"⟩) hown116 (mvT hZ115 (wT hw 334 rfl)) (mvT hZ115 (wT hw 335 rfl)) (mvT hZ115 (wT hw 336 rfl)) (by decide) (mvT hZ115 (wT hw 338 rfl)) (mvT hZ115 (wT hw 337 rfl)) (backOf (W := 0) (rmGm l Z a0 hw [] ex119 mm120 T99.heap n0 Z150 F125 ) hZ115 (wT hw 339 rfl) (wT hw 229 rfl) (by decide) (by decide)) qa357 qc359 (g := (mkF m 103 #[vI av, vI bv, vL vv, .second, vR r41, vR r78, vR ex119, .unset, .unset, .unset, .unset, .unset, .unset, .unset] [.ref ex119])) rfl (by rw [hml]; rfl) (Steps.refl _) (argsL := []) (rest := []) (lenOf o_h419 rfl) rfl (o_w0 rfl) (hb hby at_103) (fun _ _ => ⟨rfl, e342, o_l rfl, o_l rfl⟩)
 dsimp only [Pt.U, Pt.locs, Pt.cells, Pt.slots] at X348 l_351 y_352 z_353 st354 hQ350
 subst l_351 y_352 z_353
 obtain ⟨rfl, N360, e361⟩ := hQ350
 have N362 := Fr.app N343 N360
 have k25 : o_J p e below T344 m 106 #[vI av, vI bv, vL vv, .second, vR r41, vR r78, vR ex119, .unset, .unset, .unset, .unset, .unset, .unset, .unset] [.ref mm120] B_ := fun t_ hh => k24 t_ (st354.trans hh)
 clear k24 st354 X329 e342
 have k26 : o_J p e below T344 m 117 #[vI av, vI bv, vL vv, .second, vR r41, vR r78, vR ex119, vR mm120, .unset, .unset, .unset, .unset, .unset, .unset] [.ref r41] B_ := fun t_ hh => k25 t_ (by
  refine XS.astore X348.here hx rfl (hb hby at_106) rfl rfl (l' := #[vI av, vI bv, vL vv, .second, vR r41, vR r78, vR ex119, vR mm120, .unset, .unset, .unset, .unset, .unset, .unset]) rfl ?_
  refine XS.aload X348.here hx rfl (hb hby at_108) rfl rfl ?_
  refine XS.ifnonnullYes X348.here hx rfl (pc0 := 110) (pc' := 115) rfl (hb hby at_110) rfl (by decide) (by decide) ?_
  refine XS.aload X348.here hx rfl (hb hby at_115) rfl rfl ?_
  exact hh)
 clear k25
 obtain ⟨cq374, kq375, qa376, qb377, qc378⟩ := isOf hZ115 e361 F142
 obtain ⟨_, _, ⟨T363, L364, k_365, n_366⟩, -, X367, ⟨Lc368, hQ369, l_370, y_371, z_372⟩, st373⟩ := X348.virtualBack hx (y := ⟨oS, "length", "()I"⟩) (z := ⟨oS, "length", "()I"⟩) hown116 (mvT hZ115 (wT hw 340 rfl)) (mvT hZ115 (wT hw 77 rfl)) (notFace_of_selects (args := #[]) (mvT hZ115 (wT hw 79 rfl))) (mvT hZ115 (wT hw 79 rfl)) (mvT hZ115 (wT hw 78 rfl)) (by decide) (backOf (W := 0) (rmLe l Z a0 hw [] r41 tr42 kr43 (List.length ms44) (o_by ms44) T99.heap n0 Z150 F142 F143 F144 F145 O152 ci sC hc) hZ115 (wT hw 80 rfl) (wT hw 6 rfl) (by decide) (by decide)) qa376 qc378 (g := (mkF m 117 #[vI av, vI bv, vL vv, .second, vR r41, vR r78, vR ex119, vR mm120, .unset, .unset, .unset, .unset, .unset, .unset] [.ref r41])) rfl (by rw [hml]; rfl) (Steps.refl _) (argsL := []) (rest := []) (lenOf o_h167 rfl) rfl (o_w0 rfl) (hb hby at_117) (fun _ _ => ⟨rfl, e361, o_l rfl, o_l rfl⟩)
 dsimp only [Pt.U, Pt.locs, Pt.cells, Pt.slots] at X367 l_370 y_371 z_372 st373 hQ369
 subst l_370 y_371 z_372
 obtain ⟨rfl, N379, e380⟩ := hQ369
 have N381 := Fr.app N362 N379
 have k27 : o_J p e below T363 m 120 #[vI av, vI bv, vL vv, .second, vR r41, vR r78, vR ex119, vR mm120, .unset, .unset, .unset, .unset, .unset, .unset] [(.int (Int32.ofNat (List.length ms44)))] B_ := fun t_ hh => k26 t_ (st373.trans hh)
 clear k26 st373 X348 e361
 have k28 : o_J p e below T363 m 124 #[vI av, vI bv, vL vv, .second, vR r41, vR r78, vR ex119, vR mm120, vI (Int32.ofNat (List.length ms44)), .unset, .unset, .unset, .unset, .unset] [.ref r78] B_ := fun t_ hh => k27 t_ (by
  refine XS.istore X367.here hx rfl (hb hby at_120) rfl (l' := #[vI av, vI bv, vL vv, .second, vR r41, vR r78, vR ex119, vR mm120, vI (Int32.ofNat (List.length ms44)), .unset, .unset, .unset, .unset, .unset]) rfl ?_
  refine XS.aload X367.here hx rfl (hb hby at_122) rfl rfl ?_
  exact hh)
 clear k27
 obtain ⟨cq393, kq394, qa395, qb396, qc397⟩ := isOf hZ115 e380 F146
 obtain ⟨_, _, ⟨T382, L383, k_384, n_385⟩, -, X386, ⟨Lc387, hQ388, l_389, y_390, z_391⟩, st392⟩ := X367.virtualBack hx (y := ⟨oS, "length", "()I"⟩) (z := ⟨oS, "length", "()I"⟩) hown116 (mvT hZ115 (wT hw 340 rfl)) (mvT hZ115 (wT hw 77 rfl)) (notFace_of_selects (args := #[]) (mvT hZ115 (wT hw 79 rfl))) (mvT hZ115 (wT hw 79 rfl)) (mvT hZ115 (wT hw 78 rfl)) (by decide) (backOf (W := 0) (rmLe l Z a0 hw [] r78 tr79 kr80 (List.length ms81) (o_by ms81) T99.heap n0 Z150 F146 F147 F148 F149 O152 ci sC hc) hZ115 (wT hw 80 rfl) (wT hw 6 rfl) (by decide) (by decide)) qa395 qc397 (g := (mkF m 124 #[vI av, vI bv, vL vv, .second, vR r41, vR r78, vR ex119, vR mm120, vI (Int32.ofNat (List.length ms44)), .unset, .unset, .unset, .unset, .unset] [.ref r78])) rfl (by rw [hml]; rfl) (Steps.refl _) (argsL := []) (rest := []) (lenOf o_h167 rfl) rfl (o_w0 rfl) (hb hby at_124) (fun _ _ => ⟨rfl, e380, o_l rfl, o_l rfl⟩)
 dsimp only [Pt.U, Pt.locs, Pt.cells, Pt.slots] at X386 l_389 y_390 z_391 st392 hQ388
 subst l_389 y_390 z_391
 obtain ⟨rfl, N398, e399⟩ := hQ388
 have N400 := Fr.app N381 N398
 have k29 : o_J p e below T382 m 127 #[vI av, vI bv, vL vv, .second, vR r41, vR r78, vR ex119, vR mm120, vI (Int32.ofNat (List.length ms44)), .unset, .unset, .unset, .unset, .unset] [(.int (Int32.ofNat (List.length ms81)))] B_ := fun t_ hh => k28 t_ (st392.trans hh)
 clear k28 st392 X367 e380
 have k30 : o_J p e below T382 m 143 #[vI av, vI bv, vL vv, .second, vR r41, vR r78, vR ex119, vR mm120, vI (Int32.ofNat (List.length ms44)), vI (Int32.ofNat (List.length ms81)), .unset, .unset, .unset, .unset] [(.int (((((22 : Int32) + (Int32.ofNat (List.length ms44))) + (9 : Int32)) + (Int32.ofNat (List.length ms81))) + (39 : Int32)))] B_ := fun t_ hh => k29 t_ (by
  refine XS.istore X386.here hx rfl (hb hby at_127) rfl (l' := #[vI av, vI bv, vL vv, .second, vR r41, vR r78, vR ex119, vR mm120, vI (Int32.ofNat (List.length ms44)), vI (Int32.ofNat (List.length ms81)), .unset, .unset, .unset, .unset]) rfl ?_
  refine XS.bipush X386.here hx rfl (hb hby at_129) ?_
  refine XS.iload X386.here hx rfl (hb hby at_131) rfl ?_
  refine XS.iadd X386.here hx rfl (hb hby at_133) rfl ?_
  refine XS.bipush X386.here hx rfl (hb hby at_134) ?_
  refine XS.iadd X386.here hx rfl (hb hby at_136) rfl ?_
  refine XS.iload X386.here hx rfl (hb hby at_137) rfl ?_
  refine XS.iadd X386.here hx rfl (hb hby at_139) rfl ?_
  refine XS.bipush X386.here hx rfl (hb hby at_140) ?_
  refine XS.iadd X386.here hx rfl (hb hby at_142) rfl ?_
  exact hh)
 clear k29
 have k31 : o_J p e below T382 m 143 #[vI av, vI bv, vL vv, .second, vR r41, vR r78, vR ex119, vR mm120, vI (Int32.ofNat (List.length ms44)), vI (Int32.ofNat (List.length ms81)), .unset, .unset, .unset, .unset] [(.int (Int32.ofNat (22 + (List.length ms44) + 9 + (List.length ms81) + 39)))] B_ := by have q := k30; rw [o_p] at q; exact q
 obtain ⟨pn, epn⟩ : ∃ z, z = 22 + (List.length ms44) + 9 + (List.length ms81) + 39 := ⟨_, rfl⟩
 have k32 : o_J p e below T382 m 143 #[vI av, vI bv, vL vv, .second, vR r41, vR r78, vR ex119, vR mm120, vI (Int32.ofNat (List.length ms44)), vI (Int32.ofNat (List.length ms81)), .unset, .unset, .unset, .unset] [(.int (Int32.ofNat pn))] B_ := by have q := k31; rw [← epn] at q; exact q
 have k33 : o_J p e below T382 m 145 #[vI av, vI bv, vL vv, .second, vR r41, vR r78, vR ex119, vR mm120, vI (Int32.ofNat (List.length ms44)), vI (Int32.ofNat (List.length ms81)), vI (Int32.ofNat pn), .unset, .unset, .unset] [] B_ := fun t_ hh => k32 t_ (by
  refine XS.istore X386.here hx rfl (hb hby at_143) rfl (l' := #[vI av, vI bv, vL vv, .second, vR r41, vR r78, vR ex119, vR mm120, vI (Int32.ofNat (List.length ms44)), vI (Int32.ofNat (List.length ms81)), vI (Int32.ofNat pn), .unset, .unset, .unset]) rfl ?_
  exact hh)
 clear k32
 obtain ⟨T401, L402, dn, X403, e404, N405, hM407, kk406⟩ : ∃ (T401 : State) (L402 : List Loc) (dn : Int32), Stand p l e room_1 (s.setVm T99.vm) m #[.int av, .int bv, .long vv] below meth c T401 L402 47 5349 ∧ T401.heap = T99.heap ∧ Fr n0 L402 ∧ ((lcmpW vv (0 : Int64) < 0 ∧ dn = 0) ∨ (¬ lcmpW vv (0 : Int64) < 0 ∧ dn = Int32.ofNat (Jvm.Free.SBG.digitsL vv.toInt.toNat))) ∧ o_J p e below T401 m 159 #[vI av, vI bv, vL vv, .second, vR r41, vR r78, vR ex119, vR mm120, vI (Int32.ofNat (List.length ms44)), vI (Int32.ofNat (List.length ms81)), vI (Int32.ofNat pn), .unset, .unset, .unset] [.int dn] B_ := by
  have k34 : o_J p e below T382 m 148 #[vI av, vI bv, vL vv, .second, vR r41, vR r78, vR ex119, vR mm120, vI (Int32.ofNat (List.length ms44)), vI (Int32.ofNat (List.length ms81)), vI (Int32.ofNat pn), .unset, .unset, .unset] [(.int (lcmpW vv (0 : Int64)))] B_ := fun t_ hh => k33 t_ (by
   refine XS.lloadN X386.here hx rfl (hb hby at_145) rfl ?_
   refine XS.lconst X386.here hx rfl (hb hby at_146) ?_
   refine XS.lcmp X386.here hx rfl (hb hby at_147) rfl ?_
   exact hh)
  clear k33
  by_cases c148 : (lcmpW vv (0 : Int64)) < 0
  ·
   have k35 : o_J p e below T382 m 159 #[vI av, vI bv, vL vv, .second, vR r41, vR r78, vR ex119, vR mm120, vI (Int32.ofNat (List.length ms44)), vI (Int32.ofNat (List.length ms81)), vI (Int32.ofNat pn), .unset, .unset, .unset] [(.int 0)] B_ := fun t_ hh => k34 t_ (by
    refine XS.ifNo X386.here hx rfl (hb hby at_148) rfl (o_ifF_ge c148) ?_
    refine XS.iconst X386.here hx rfl (hb hby at_151) ?_
    refine XS.goto X386.here hx rfl (pc0 := 152) (pc' := 159) rfl (hb hby at_152) (by decide) (by decide) ?_
    exact hh)
   clear k34
   exact ⟨_, _, (0 : Int32), X386, e399, N400, (Or.inl ⟨c148, rfl⟩), k35⟩
  ·
   have k36 : o_J p e below T382 m 156 #[vI av, vI bv, vL vv, .second, vR r41, vR r78, vR ex119, vR mm120, vI (Int32.ofNat (List.length ms44)), vI (Int32.ofNat (List.length ms81)), vI (Int32.ofNat pn), .unset, .unset, .unset] [.long vv] B_ := fun t_ hh => k34 t_ (by
    refine XS.ifYes X386.here hx rfl (pc0 := 148) (pc' := 155) rfl (hb hby at_148) rfl (o_ifT_ge c148) (by decide) (by decide) ?_
    refine XS.lloadN X386.here hx rfl (hb hby at_155) rfl ?_
    exact hh)
   clear k34
   obtain ⟨_, _, ⟨T408, L409, k_410, n_411⟩, -, X412, ⟨Lc413, hQ414, l_415, y_416, z_417⟩, st418⟩ := Jvm.LawKit.callS X386 hx (y := ⟨oP, "digits", "(J)I"⟩) hown116 (mvT hZ115 (wT hw 341 rfl)) (mvT hZ115 (wT hw 342 rfl)) (mvT hZ115 (wT hw 2 rfl)) (mvT hZ115 (wT hw 343 rfl)) (by decide) (backOf (W := 0) (rmDi l Z a0 hw [] vv T99.heap n0 Z150 (Int.not_lt.mp fun q => c148 (o_lcmp0.mpr q)) ) hZ115 (wT hw 343 rfl) (wT hw 2 rfl) (by decide) (by decide)) (g := (mkF m 156 #[vI av, vI bv, vL vv, .second, vR r41, vR r78, vR ex119, vR mm120, vI (Int32.ofNat (List.length ms44)), vI (Int32.ofNat (List.length ms81)), vI (Int32.ofNat pn), .unset, .unset, .unset] [.long vv])) rfl (by rw [hml]; rfl) (argsL := [.long vv]) (rest := []) (lenOf o_h427 rfl) rfl (o_w0 rfl) (hb hby at_156) (fun _ _ => ⟨rfl, e399, o_l rfl, o_l rfl⟩)
   dsimp only [Pt.U, Pt.locs, Pt.cells, Pt.slots] at X412 l_415 y_416 z_417 st418 hQ414
   subst l_415 y_416 z_417
   obtain ⟨rfl, N419, e420⟩ := hQ414
   have N421 := Fr.app N400 N419
   have k37 : o_J p e below T408 m 159 #[vI av, vI bv, vL vv, .second, vR r41, vR r78, vR ex119, vR mm120, vI (Int32.ofNat (List.length ms44)), vI (Int32.ofNat (List.length ms81)), vI (Int32.ofNat pn), .unset, .unset, .unset] [(.int (Int32.ofNat (Jvm.Free.SBG.digitsL vv.toInt.toNat)))] B_ := fun t_ hh => k36 t_ (st418 t_ hh)
   clear k36 st418 X386 e399
   exact ⟨_, _, (Int32.ofNat (Jvm.Free.SBG.digitsL vv.toInt.toNat)), X412, e420, N421, (Or.inr ⟨c148, rfl⟩), k37⟩
 clear k33
 have hdn := hM407
 have k38 : o_J p e below T401 m 161 #[vI av, vI bv, vL vv, .second, vR r41, vR r78, vR ex119, vR mm120, vI (Int32.ofNat (List.length ms44)), vI (Int32.ofNat (List.length ms81)), vI (Int32.ofNat pn), vI dn, .unset, .unset] [] B_ := fun t_ hh => kk406 t_ (by
  refine XS.istore X403.here hx rfl (hb hby at_159) rfl (l' := #[vI av, vI bv, vL vv, .second, vR r41, vR r78, vR ex119, vR mm120, vI (Int32.ofNat (List.length ms44)), vI (Int32.ofNat (List.length ms81)), vI (Int32.ofNat pn), vI dn, .unset, .unset]) rfl ?_
  exact hh)
 clear kk406
 obtain ⟨lnv, hM422, k39⟩ : ∃ lnv : Int32, (lnv = Int32.ofNat (List.length ms123)) ∧ o_J p e below T401 m 183 #[vI av, vI bv, vL vv, .second, vR r41, vR r78, vR ex119, vR mm120, vI (Int32.ofNat (List.length ms44)), vI (Int32.ofNat (List.length ms81)), vI (Int32.ofNat pn), vI dn, .unset, .unset] [.int lnv] B_ := by
  have k40 : o_J p e below T401 m 164 #[vI av, vI bv, vL vv, .second, vR r41, vR r78, vR ex119, vR mm120, vI (Int32.ofNat (List.length ms44)), vI (Int32.ofNat (List.length ms81)), vI (Int32.ofNat pn), vI dn, .unset, .unset] [(.int (lcmpW vv (0 : Int64)))] B_ := fun t_ hh => k38 t_ (by
   refine XS.lloadN X403.here hx rfl (hb hby at_161) rfl ?_
   refine XS.lconst X403.here hx rfl (hb hby at_162) ?_
   refine XS.lcmp X403.here hx rfl (hb hby at_163) rfl ?_
   exact hh)
  clear k38
  by_cases c164 : (lcmpW vv (0 : Int64)) < 0
  ·
   have k41 : o_J p e below T401 m 183 #[vI av, vI bv, vL vv, .second, vR r41, vR r78, vR ex119, vR mm120, vI (Int32.ofNat (List.length ms44)), vI (Int32.ofNat (List.length ms81)), vI (Int32.ofNat pn), vI dn, .unset, .unset] [(.int ((Int32.ofNat pn) + (25 : Int32)))] B_ := fun t_ hh => k40 t_ (by
    refine XS.ifNo X403.here hx rfl (hb hby at_164) rfl (o_ifF_ge c164) ?_
    refine XS.iload X403.here hx rfl (hb hby at_167) rfl ?_
    refine XS.bipush X403.here hx rfl (hb hby at_169) ?_
    refine XS.iadd X403.here hx rfl (hb hby at_171) rfl ?_
    refine XS.goto X403.here hx rfl (pc0 := 172) (pc' := 183) rfl (hb hby at_172) (by decide) (by decide) ?_
    exact hh)
   clear k40
   exact ⟨((Int32.ofNat pn) + (25 : Int32)), (o_lnN F137 epn c164), k41⟩
  ·
   have k42 : o_J p e below T401 m 183 #[vI av, vI bv, vL vv, .second, vR r41, vR r78, vR ex119, vR mm120, vI (Int32.ofNat (List.length ms44)), vI (Int32.ofNat (List.length ms81)), vI (Int32.ofNat pn), vI dn, .unset, .unset] [(.int (((Int32.ofNat pn) + (26 : Int32)) + dn))] B_ := fun t_ hh => k40 t_ (by
    refine XS.ifYes X403.here hx rfl (pc0 := 164) (pc' := 175) rfl (hb hby at_164) rfl (o_ifT_ge c164) (by decide) (by decide) ?_
    refine XS.iload X403.here hx rfl (hb hby at_175) rfl ?_
    refine XS.bipush X403.here hx rfl (hb hby at_177) ?_
    refine XS.iadd X403.here hx rfl (hb hby at_179) rfl ?_
    refine XS.iload X403.here hx rfl (hb hby at_180) rfl ?_
    refine XS.iadd X403.here hx rfl (hb hby at_182) rfl ?_
    exact hh)
   clear k40
   exact ⟨(((Int32.ofNat pn) + (26 : Int32)) + dn), (o_lnP hdn F137 epn c164), k42⟩
 have hln := hM422
 have k43 : o_J p e below T401 m 185 #[vI av, vI bv, vL vv, .second, vR r41, vR r78, vR ex119, vR mm120, vI (Int32.ofNat (List.length ms44)), vI (Int32.ofNat (List.length ms81)), vI (Int32.ofNat pn), vI dn, vI lnv, .unset] [] B_ := fun t_ hh => k39 t_ (by
  refine XS.istore X403.here hx rfl (hb hby at_183) rfl (l' := #[vI av, vI bv, vL vv, .second, vR r41, vR r78, vR ex119, vR mm120, vI (Int32.ofNat (List.length ms44)), vI (Int32.ofNat (List.length ms81)), vI (Int32.ofNat pn), vI dn, vI lnv, .unset]) rfl ?_
  exact hh)
 clear k39
 have S_s1 : o_Str Z T99.heap r41 tr42 kr43 ms44 := ⟨F142, F143, F144, F145⟩
 have S_s2 : o_Str Z T99.heap r78 tr79 kr80 ms81 := ⟨F146, F147, F148, F149⟩
 have S_m : o_Str Z T99.heap mm120 tm121 km122 ms123 := ⟨F133, F134, F135, F136⟩
 have hb8 := o_msg_b8 F49.2 F86.2 F137
 have hlm := o_msg_le F49.1 F86.1 F137
 have k44 : o_J p e below T401 m 187 #[vI av, vI bv, vL vv, .second, vR r41, vR r78, vR ex119, vR mm120, vI (Int32.ofNat (List.length ms44)), vI (Int32.ofNat (List.length ms81)), vI (Int32.ofNat pn), vI dn, vI lnv, .unset] [.ref mm120] B_ := fun t_ hh => k43 t_ (by
  refine XS.aload X403.here hx rfl (hb hby at_185) rfl rfl ?_
  exact hh)
 clear k43
 obtain ⟨cq434, kq435, qa436, qb437, qc438⟩ := isOf hZ115 e404 F133
 obtain ⟨_, _, ⟨T423, L424, k_425, n_426⟩, -, X427, ⟨Lc428, hQ429, l_430, y_431, z_432⟩, st433⟩ := X403.virtualBack hx (y := ⟨oS, "length", "()I"⟩) (z := ⟨oS, "length", "()I"⟩) hown116 (mvT hZ115 (wT hw 340 rfl)) (mvT hZ115 (wT hw 77 rfl)) (notFace_of_selects (args := #[]) (mvT hZ115 (wT hw 79 rfl))) (mvT hZ115 (wT hw 79 rfl)) (mvT hZ115 (wT hw 78 rfl)) (by decide) (backOf (W := 0) (rmLe l Z a0 hw [] mm120 tm121 km122 (List.length ms123) (o_by ms123) T99.heap n0 Z150 F133 F134 F135 F136 O152 ci sC hc) hZ115 (wT hw 80 rfl) (wT hw 6 rfl) (by decide) (by decide)) qa436 qc438 (g := (mkF m 187 #[vI av, vI bv, vL vv, .second, vR r41, vR r78, vR ex119, vR mm120, vI (Int32.ofNat (List.length ms44)), vI (Int32.ofNat (List.length ms81)), vI (Int32.ofNat pn), vI dn, vI lnv, .unset] [.ref mm120])) rfl (by rw [hml]; rfl) (Steps.refl _) (argsL := []) (rest := []) (lenOf o_h167 rfl) rfl (o_w0 rfl) (hb hby at_187) (fun _ _ => ⟨rfl, e404, o_l rfl, o_l rfl⟩)
 dsimp only [Pt.U, Pt.locs, Pt.cells, Pt.slots] at X427 l_430 y_431 z_432 st433 hQ429
 subst l_430 y_431 z_432
 obtain ⟨rfl, N439, e440⟩ := hQ429
 have N441 := Fr.app N405 N439
 have k45 : o_J p e below T423 m 190 #[vI av, vI bv, vL vv, .second, vR r41, vR r78, vR ex119, vR mm120, vI (Int32.ofNat (List.length ms44)), vI (Int32.ofNat (List.length ms81)), vI (Int32.ofNat pn), vI dn, vI lnv, .unset] [(.int (Int32.ofNat (List.length ms123)))] B_ := fun t_ hh => k44 t_ (st433.trans hh)
 clear k44 st433 X403 e404
 have k46 : o_J p e below T423 m 200 #[vI av, vI bv, vL vv, .second, vR r41, vR r78, vR ex119, vR mm120, vI (Int32.ofNat (List.length ms44)), vI (Int32.ofNat (List.length ms81)), vI (Int32.ofNat pn), vI dn, vI lnv, .unset] [(.int 0), .ref mm120] B_ := fun t_ hh => k45 t_ (by
  refine XS.iload X427.here hx rfl (hb hby at_190) rfl ?_
  refine XS.icmpYes X427.here hx rfl (pc0 := 192) (pc' := 197) rfl (hb hby at_192) rfl (o_icT_eq hln.symm) (by decide) (by decide) ?_
  refine XS.aload X427.here hx rfl (hb hby at_197) rfl rfl ?_
  refine XS.iconst X427.here hx rfl (hb hby at_199) ?_
  exact hh)
 clear k45
 obtain ⟨cq453, kq454, qa455, qb456, qc457⟩ := isOf hZ115 e440 F133
 obtain ⟨_, _, ⟨T442, L443, k_444, n_445⟩, -, X446, ⟨Lc447, hQ448, l_449, y_450, z_451⟩, st452⟩ := X427.virtualBack hx (y := ⟨oS, "charAt", "(I)C"⟩) (z := ⟨oS, "charAt", "(I)C"⟩) hown116 (mvT hZ115 (wT hw 362 rfl)) (mvT hZ115 (wT hw 363 rfl)) (notFace_of_selects (args := #[]) (mvT hZ115 (wT hw 365 rfl))) (mvT hZ115 (wT hw 365 rfl)) (mvT hZ115 (wT hw 364 rfl)) (by decide) (StrChars.Road.chN (W := 0) hZ115 (fun d hd => hw d (o_sub_wordsChN d hd)) (kI := 4) (wT hw 5 rfl) (i := 0) S_m.1 S_m.2.1 S_m.2.2.1 S_m.2.2.2 (o_cod hb8) (fun c hc => (hb8 c hc).up) (Sta.ext O152.2 sC) hc (Sta.ext O152.2 sG) hg hlm (o_i0 F137) rfl (by decide) (by decide)) qa455 qc457 (g := (mkF m 200 #[vI av, vI bv, vL vv, .second, vR r41, vR r78, vR ex119, vR mm120, vI (Int32.ofNat (List.length ms44)), vI (Int32.ofNat (List.length ms81)), vI (Int32.ofNat pn), vI dn, vI lnv, .unset] [(.int 0), .ref mm120])) rfl (by rw [hml]; rfl) (Steps.refl _) (argsL := [(.int 0)]) (rest := []) (lenOf o_h702 rfl) rfl (o_w0 rfl) (hb hby at_200) (fun _ _ => ⟨rfl, e440, o_l rfl, o_l rfl⟩)
 dsimp only [Pt.U, Pt.locs, Pt.cells, Pt.slots] at X446 l_449 y_450 z_451 st452 hQ448
 subst l_449 y_450 z_451
 obtain ⟨rfl, rfl, e458⟩ := hQ448
 have N459 := Fr.app N441 (Fr.nil n0)
 have k47 : o_J p e below T442 m 203 #[vI av, vI bv, vL vv, .second, vR r41, vR r78, vR ex119, vR mm120, vI (Int32.ofNat (List.length ms44)), vI (Int32.ofNat (List.length ms81)), vI (Int32.ofNat pn), vI dn, vI lnv, .unset] [(.int (ms123.getD 0 0))] B_ := fun t_ hh => k46 t_ (st452.trans hh)
 clear k46 st452 X427 e440
 have k48 : o_J p e below T442 m 212 #[vI av, vI bv, vL vv, .second, vR r41, vR r78, vR ex119, vR mm120, vI (Int32.ofNat (List.length ms44)), vI (Int32.ofNat (List.length ms81)), vI (Int32.ofNat pn), vI dn, vI lnv, .unset] [(.int 21), .ref mm120] B_ := fun t_ hh => k47 t_ (by
  refine XS.bipush X446.here hx rfl (hb hby at_203) ?_
  refine XS.icmpNo X446.here hx rfl (hb hby at_205) rfl (o_icF_ne (o_c0 F137)) ?_
  refine XS.aload X446.here hx rfl (hb hby at_208) rfl rfl ?_
  refine XS.bipush X446.here hx rfl (hb hby at_210) ?_
  exact hh)
 clear k47
 obtain ⟨cq471, kq472, qa473, qb474, qc475⟩ := isOf hZ115 e458 F133
 obtain ⟨_, _, ⟨T460, L461, k_462, n_463⟩, -, X464, ⟨Lc465, hQ466, l_467, y_468, z_469⟩, st470⟩ := X446.virtualBack hx (y := ⟨oS, "charAt", "(I)C"⟩) (z := ⟨oS, "charAt", "(I)C"⟩) hown116 (mvT hZ115 (wT hw 362 rfl)) (mvT hZ115 (wT hw 363 rfl)) (notFace_of_selects (args := #[]) (mvT hZ115 (wT hw 365 rfl))) (mvT hZ115 (wT hw 365 rfl)) (mvT hZ115 (wT hw 364 rfl)) (by decide) (StrChars.Road.chN (W := 0) hZ115 (fun d hd => hw d (o_sub_wordsChN d hd)) (kI := 4) (wT hw 5 rfl) (i := 21) S_m.1 S_m.2.1 S_m.2.2.1 S_m.2.2.2 (o_cod hb8) (fun c hc => (hb8 c hc).up) (Sta.ext O152.2 sC) hc (Sta.ext O152.2 sG) hg hlm (o_i21 F137) rfl (by decide) (by decide)) qa473 qc475 (g := (mkF m 212 #[vI av, vI bv, vL vv, .second, vR r41, vR r78, vR ex119, vR mm120, vI (Int32.ofNat (List.length ms44)), vI (Int32.ofNat (List.length ms81)), vI (Int32.ofNat pn), vI dn, vI lnv, .unset] [(.int 21), .ref mm120])) rfl (by rw [hml]; rfl) (Steps.refl _) (argsL := [(.int 21)]) (rest := []) (lenOf o_h702 rfl) rfl (o_w0 rfl) (hb hby at_212) (fun _ _ => ⟨rfl, e458, o_l rfl, o_l rfl⟩)
 dsimp only [Pt.U, Pt.locs, Pt.cells, Pt.slots] at X464 l_467 y_468 z_469 st470 hQ466
 subst l_467 y_468 z_469
 obtain ⟨rfl, rfl, e476⟩ := hQ466
 have N477 := Fr.app N459 (Fr.nil n0)
 have k49 : o_J p e below T460 m 215 #[vI av, vI bv, vL vv, .second, vR r41, vR r78, vR ex119, vR mm120, vI (Int32.ofNat (List.length ms44)), vI (Int32.ofNat (List.length ms81)), vI (Int32.ofNat pn), vI dn, vI lnv, .unset] [(.int (ms123.getD 21 0))] B_ := fun t_ hh => k48 t_ (st470.trans hh)
 clear k48 st470 X446 e458
 have k50 : o_J p e below T460 m 222 #[vI av, vI bv, vL vv, .second, vR r41, vR r78, vR ex119, vR mm120, vI (Int32.ofNat (List.length ms44)), vI (Int32.ofNat (List.length ms81)), vI (Int32.ofNat pn), vI dn, vI lnv, .unset] [] B_ := fun t_ hh => k49 t_ (by
  refine XS.bipush X464.here hx rfl (hb hby at_215) ?_
  refine XS.icmpYes X464.here hx rfl (pc0 := 217) (pc' := 222) rfl (hb hby at_217) rfl (o_icT_eq (o_c21 F137)) (by decide) (by decide) ?_
  exact hh)
 clear k49
 obtain ⟨T478, L479, X480, e481, N482, hM484, kk483⟩ : ∃ (T478 : State) (L479 : List Loc), Stand p l e room_1 (s.setVm T99.vm) m #[.int av, .int bv, .long vv] below meth c T478 L479 47 5349 ∧ T478.heap = T99.heap ∧ Fr n0 L479 ∧ (True) ∧ o_J p e below T478 m 246 #[vI av, vI bv, vL vv, .second, vR r41, vR r78, vR ex119, vR mm120, vI (Int32.ofNat (List.length ms44)), vI (Int32.ofNat (List.length ms81)), vI (Int32.ofNat pn), vI dn, vI lnv, .unset] [] B_ := by
  have k51 : o_J p e below T460 m 225 #[vI av, vI bv, vL vv, .second, vR r41, vR r78, vR ex119, vR mm120, vI (Int32.ofNat (List.length ms44)), vI (Int32.ofNat (List.length ms81)), vI (Int32.ofNat pn), vI dn, vI lnv, .unset] [(.int 1), (.int (Int32.ofNat (List.length ms44)))] B_ := fun t_ hh => k50 t_ (by
   refine XS.iload X464.here hx rfl (hb hby at_222) rfl ?_
   refine XS.iconst X464.here hx rfl (hb hby at_224) ?_
   exact hh)
  clear k50
  by_cases c225 : (Int32.ofNat (List.length ms44)) < (1 : Int32)
  ·
   have k52 : o_J p e below T460 m 246 #[vI av, vI bv, vL vv, .second, vR r41, vR r78, vR ex119, vR mm120, vI (Int32.ofNat (List.length ms44)), vI (Int32.ofNat (List.length ms81)), vI (Int32.ofNat pn), vI dn, vI lnv, .unset] [] B_ := fun t_ hh => k51 t_ (by
    refine XS.icmpYes X464.here hx rfl (pc0 := 225) (pc' := 246) rfl (hb hby at_225) rfl (o_icT_lt c225) (by decide) (by decide) ?_
    exact hh)
   clear k51
   exact ⟨_, _, X464, e476, N477, trivial, k52⟩
  ·
   have k53 : o_J p e below T460 m 232 #[vI av, vI bv, vL vv, .second, vR r41, vR r78, vR ex119, vR mm120, vI (Int32.ofNat (List.length ms44)), vI (Int32.ofNat (List.length ms81)), vI (Int32.ofNat pn), vI dn, vI lnv, .unset] [(.int 22), .ref mm120] B_ := fun t_ hh => k51 t_ (by
    refine XS.icmpNo X464.here hx rfl (hb hby at_225) rfl (o_icF_lt c225) ?_
    refine XS.aload X464.here hx rfl (hb hby at_228) rfl rfl ?_
    refine XS.bipush X464.here hx rfl (hb hby at_230) ?_
    exact hh)
   clear k51
   obtain ⟨cq496, kq497, qa498, qb499, qc500⟩ := isOf hZ115 e476 F133
   obtain ⟨_, _, ⟨T485, L486, k_487, n_488⟩, -, X489, ⟨Lc490, hQ491, l_492, y_493, z_494⟩, st495⟩ := X464.virtualBack hx (y := ⟨oS, "charAt", "(I)C"⟩) (z := ⟨oS, "charAt", "(I)C"⟩) hown116 (mvT hZ115 (wT hw 362 rfl)) (mvT hZ115 (wT hw 363 rfl)) (notFace_of_selects (args := #[]) (mvT hZ115 (wT hw 365 rfl))) (mvT hZ115 (wT hw 365 rfl)) (mvT hZ115 (wT hw 364 rfl)) (by decide) (StrChars.Road.chN (W := 0) hZ115 (fun d hd => hw d (o_sub_wordsChN d hd)) (kI := 4) (wT hw 5 rfl) (i := 22) S_m.1 S_m.2.1 S_m.2.2.1 S_m.2.2.2 (o_cod hb8) (fun c hc => (hb8 c hc).up) (Sta.ext O152.2 sC) hc (Sta.ext O152.2 sG) hg hlm (o_i22 F137) rfl (by decide) (by decide)) qa498 qc500 (g := (mkF m 232 #[vI av, vI bv, vL vv, .second, vR r41, vR r78, vR ex119, vR mm120, vI (Int32.ofNat (List.length ms44)), vI (Int32.ofNat (List.length ms81)), vI (Int32.ofNat pn), vI dn, vI lnv, .unset] [(.int 22), .ref mm120])) rfl (by rw [hml]; rfl) (Steps.refl _) (argsL := [(.int 22)]) (rest := []) (lenOf o_h702 rfl) rfl (o_w0 rfl) (hb hby at_232) (fun _ _ => ⟨rfl, e476, o_l rfl, o_l rfl⟩)
   dsimp only [Pt.U, Pt.locs, Pt.cells, Pt.slots] at X489 l_492 y_493 z_494 st495 hQ491
   subst l_492 y_493 z_494
   obtain ⟨rfl, rfl, e501⟩ := hQ491
   have N502 := Fr.app N477 (Fr.nil n0)
   have k54 : o_J p e below T485 m 235 #[vI av, vI bv, vL vv, .second, vR r41, vR r78, vR ex119, vR mm120, vI (Int32.ofNat (List.length ms44)), vI (Int32.ofNat (List.length ms81)), vI (Int32.ofNat pn), vI dn, vI lnv, .unset] [(.int (ms123.getD 22 0))] B_ := fun t_ hh => k53 t_ (st495.trans hh)
   clear k53 st495 X464 e476
   have k55 : o_J p e below T485 m 238 #[vI av, vI bv, vL vv, .second, vR r41, vR r78, vR ex119, vR mm120, vI (Int32.ofNat (List.length ms44)), vI (Int32.ofNat (List.length ms81)), vI (Int32.ofNat pn), vI dn, vI lnv, .unset] [(.int 0), .ref r41, (.int (ms123.getD 22 0))] B_ := fun t_ hh => k54 t_ (by
    refine XS.aload X489.here hx rfl (hb hby at_235) rfl rfl ?_
    refine XS.iconst X489.here hx rfl (hb hby at_237) ?_
    exact hh)
   clear k54
   obtain ⟨cq514, kq515, qa516, qb517, qc518⟩ := isOf hZ115 e501 F142
   obtain ⟨_, _, ⟨T503, L504, k_505, n_506⟩, -, X507, ⟨Lc508, hQ509, l_510, y_511, z_512⟩, st513⟩ := X489.virtualBack hx (y := ⟨oS, "charAt", "(I)C"⟩) (z := ⟨oS, "charAt", "(I)C"⟩) hown116 (mvT hZ115 (wT hw 362 rfl)) (mvT hZ115 (wT hw 363 rfl)) (notFace_of_selects (args := #[]) (mvT hZ115 (wT hw 365 rfl))) (mvT hZ115 (wT hw 365 rfl)) (mvT hZ115 (wT hw 364 rfl)) (by decide) (StrChars.Road.chN (W := 1) hZ115 (fun d hd => hw d (o_sub_wordsChN d hd)) (kI := 4) (wT hw 5 rfl) (i := 0) S_s1.1 S_s1.2.1 S_s1.2.2.1 S_s1.2.2.2 (o_cod F49.2) (fun c hc => (F49.2 c hc).up) (Sta.ext O152.2 sC) hc (Sta.ext O152.2 sG) hg (Nat.le_trans F49.1 (o_l rfl)) (o_nlt1 c225) rfl (by decide) (by decide)) qa516 qc518 (g := (mkF m 238 #[vI av, vI bv, vL vv, .second, vR r41, vR r78, vR ex119, vR mm120, vI (Int32.ofNat (List.length ms44)), vI (Int32.ofNat (List.length ms81)), vI (Int32.ofNat pn), vI dn, vI lnv, .unset] [(.int 0), .ref r41, (.int (ms123.getD 22 0))])) rfl (by rw [hml]; rfl) (Steps.refl _) (argsL := [(.int 0)]) (rest := [(.int (ms123.getD 22 0))]) (lenOf o_h702 rfl) rfl (o_w0 rfl) (hb hby at_238) (fun _ _ => ⟨rfl, e501, o_l rfl, o_l rfl⟩)
   dsimp only [Pt.U, Pt.locs, Pt.cells, Pt.slots] at X507 l_510 y_511 z_512 st513 hQ509
   subst l_510 y_511 z_512
   obtain ⟨rfl, rfl, e519⟩ := hQ509
   have N520 := Fr.app N502 (Fr.nil n0)
   have k56 : o_J p e below T503 m 241 #[vI av, vI bv, vL vv, .second, vR r41, vR r78, vR ex119, vR mm120, vI (Int32.ofNat (List.length ms44)), vI (Int32.ofNat (List.length ms81)), vI (Int32.ofNat pn), vI dn, vI lnv, .unset] [(.int (ms44.getD 0 0)), (.int (ms123.getD 22 0))] B_ := fun t_ hh => k55 t_ (st513.trans hh)
   clear k55 st513 X489 e501
   have k57 : o_J p e below T503 m 246 #[vI av, vI bv, vL vv, .second, vR r41, vR r78, vR ex119, vR mm120, vI (Int32.ofNat (List.length ms44)), vI (Int32.ofNat (List.length ms81)), vI (Int32.ofNat pn), vI dn, vI lnv, .unset] [] B_ := fun t_ hh => k56 t_ (by
    refine XS.icmpYes X507.here hx rfl (pc0 := 241) (pc' := 246) rfl (hb hby at_241) rfl (o_icT_eq (o_c22 F137 (o_nlt1 c225))) (by decide) (by decide) ?_
    exact hh)
   clear k56
   exact ⟨_, _, X507, e519, N520, trivial, k57⟩
 clear k50
 obtain ⟨T521, L522, X523, e524, N525, hM527, kk526⟩ : ∃ (T521 : State) (L522 : List Loc), Stand p l e room_1 (s.setVm T99.vm) m #[.int av, .int bv, .long vv] below meth c T521 L522 47 5349 ∧ T521.heap = T99.heap ∧ Fr n0 L522 ∧ (True) ∧ o_J p e below T521 m 270 #[vI av, vI bv, vL vv, .second, vR r41, vR r78, vR ex119, vR mm120, vI (Int32.ofNat (List.length ms44)), vI (Int32.ofNat (List.length ms81)), vI (Int32.ofNat pn), vI dn, vI lnv, .unset] [] B_ := by
  have k58 : o_J p e below T478 m 249 #[vI av, vI bv, vL vv, .second, vR r41, vR r78, vR ex119, vR mm120, vI (Int32.ofNat (List.length ms44)), vI (Int32.ofNat (List.length ms81)), vI (Int32.ofNat pn), vI dn, vI lnv, .unset] [(.int 2), (.int (Int32.ofNat (List.length ms44)))] B_ := fun t_ hh => kk483 t_ (by
   refine XS.iload X480.here hx rfl (hb hby at_246) rfl ?_
   refine XS.iconst X480.here hx rfl (hb hby at_248) ?_
   exact hh)
  clear kk483
  by_cases c249 : (Int32.ofNat (List.length ms44)) < (2 : Int32)
  ·
   have k59 : o_J p e below T478 m 270 #[vI av, vI bv, vL vv, .second, vR r41, vR r78, vR ex119, vR mm120, vI (Int32.ofNat (List.length ms44)), vI (Int32.ofNat (List.length ms81)), vI (Int32.ofNat pn), vI dn, vI lnv, .unset] [] B_ := fun t_ hh => k58 t_ (by
    refine XS.icmpYes X480.here hx rfl (pc0 := 249) (pc' := 270) rfl (hb hby at_249) rfl (o_icT_lt c249) (by decide) (by decide) ?_
    exact hh)
   clear k58
   exact ⟨_, _, X480, e481, N482, trivial, k59⟩
  ·
   have k60 : o_J p e below T478 m 256 #[vI av, vI bv, vL vv, .second, vR r41, vR r78, vR ex119, vR mm120, vI (Int32.ofNat (List.length ms44)), vI (Int32.ofNat (List.length ms81)), vI (Int32.ofNat pn), vI dn, vI lnv, .unset] [(.int 23), .ref mm120] B_ := fun t_ hh => k58 t_ (by
    refine XS.icmpNo X480.here hx rfl (hb hby at_249) rfl (o_icF_lt c249) ?_
    refine XS.aload X480.here hx rfl (hb hby at_252) rfl rfl ?_
    refine XS.bipush X480.here hx rfl (hb hby at_254) ?_
    exact hh)
   clear k58
   obtain ⟨cq539, kq540, qa541, qb542, qc543⟩ := isOf hZ115 e481 F133
   obtain ⟨_, _, ⟨T528, L529, k_530, n_531⟩, -, X532, ⟨Lc533, hQ534, l_535, y_536, z_537⟩, st538⟩ := X480.virtualBack hx (y := ⟨oS, "charAt", "(I)C"⟩) (z := ⟨oS, "charAt", "(I)C"⟩) hown116 (mvT hZ115 (wT hw 362 rfl)) (mvT hZ115 (wT hw 363 rfl)) (notFace_of_selects (args := #[]) (mvT hZ115 (wT hw 365 rfl))) (mvT hZ115 (wT hw 365 rfl)) (mvT hZ115 (wT hw 364 rfl)) (by decide) (StrChars.Road.chN (W := 0) hZ115 (fun d hd => hw d (o_sub_wordsChN d hd)) (kI := 4) (wT hw 5 rfl) (i := 23) S_m.1 S_m.2.1 S_m.2.2.1 S_m.2.2.2 (o_cod hb8) (fun c hc => (hb8 c hc).up) (Sta.ext O152.2 sC) hc (Sta.ext O152.2 sG) hg hlm (o_i23 F137) rfl (by decide) (by decide)) qa541 qc543 (g := (mkF m 256 #[vI av, vI bv, vL vv, .second, vR r41, vR r78, vR ex119, vR mm120, vI (Int32.ofNat (List.length ms44)), vI (Int32.ofNat (List.length ms81)), vI (Int32.ofNat pn), vI dn, vI lnv, .unset] [(.int 23), .ref mm120])) rfl (by rw [hml]; rfl) (Steps.refl _) (argsL := [(.int 23)]) (rest := []) (lenOf o_h702 rfl) rfl (o_w0 rfl) (hb hby at_256) (fun _ _ => ⟨rfl, e481, o_l rfl, o_l rfl⟩)
   dsimp only [Pt.U, Pt.locs, Pt.cells, Pt.slots] at X532 l_535 y_536 z_537 st538 hQ534
   subst l_535 y_536 z_537
   obtain ⟨rfl, rfl, e544⟩ := hQ534
   have N545 := Fr.app N482 (Fr.nil n0)
   have k61 : o_J p e below T528 m 259 #[vI av, vI bv, vL vv, .second, vR r41, vR r78, vR ex119, vR mm120, vI (Int32.ofNat (List.length ms44)), vI (Int32.ofNat (List.length ms81)), vI (Int32.ofNat pn), vI dn, vI lnv, .unset] [(.int (ms123.getD 23 0))] B_ := fun t_ hh => k60 t_ (st538.trans hh)
   clear k60 st538 X480 e481
   have k62 : o_J p e below T528 m 262 #[vI av, vI bv, vL vv, .second, vR r41, vR r78, vR ex119, vR mm120, vI (Int32.ofNat (List.length ms44)), vI (Int32.ofNat (List.length ms81)), vI (Int32.ofNat pn), vI dn, vI lnv, .unset] [(.int 1), .ref r41, (.int (ms123.getD 23 0))] B_ := fun t_ hh => k61 t_ (by
    refine XS.aload X532.here hx rfl (hb hby at_259) rfl rfl ?_
    refine XS.iconst X532.here hx rfl (hb hby at_261) ?_
    exact hh)
   clear k61
   obtain ⟨cq557, kq558, qa559, qb560, qc561⟩ := isOf hZ115 e544 F142
   obtain ⟨_, _, ⟨T546, L547, k_548, n_549⟩, -, X550, ⟨Lc551, hQ552, l_553, y_554, z_555⟩, st556⟩ := X532.virtualBack hx (y := ⟨oS, "charAt", "(I)C"⟩) (z := ⟨oS, "charAt", "(I)C"⟩) hown116 (mvT hZ115 (wT hw 362 rfl)) (mvT hZ115 (wT hw 363 rfl)) (notFace_of_selects (args := #[]) (mvT hZ115 (wT hw 365 rfl))) (mvT hZ115 (wT hw 365 rfl)) (mvT hZ115 (wT hw 364 rfl)) (by decide) (StrChars.Road.chN (W := 1) hZ115 (fun d hd => hw d (o_sub_wordsChN d hd)) (kI := 4) (wT hw 5 rfl) (i := 1) S_s1.1 S_s1.2.1 S_s1.2.2.1 S_s1.2.2.2 (o_cod F49.2) (fun c hc => (F49.2 c hc).up) (Sta.ext O152.2 sC) hc (Sta.ext O152.2 sG) hg (Nat.le_trans F49.1 (o_l rfl)) (o_nlt2 F49.1 c249) rfl (by decide) (by decide)) qa559 qc561 (g := (mkF m 262 #[vI av, vI bv, vL vv, .second, vR r41, vR r78, vR ex119, vR mm120, vI (Int32.ofNat (List.length ms44)), vI (Int32.ofNat (List.length ms81)), vI (Int32.ofNat pn), vI dn, vI lnv, .unset] [(.int 1), .ref r41, (.int (ms123.getD 23 0))])) rfl (by rw [hml]; rfl) (Steps.refl _) (argsL := [(.int 1)]) (rest := [(.int (ms123.getD 23 0))]) (lenOf o_h702 rfl) rfl (o_w0 rfl) (hb hby at_262) (fun _ _ => ⟨rfl, e544, o_l rfl, o_l rfl⟩)
   dsimp only [Pt.U, Pt.locs, Pt.cells, Pt.slots] at X550 l_553 y_554 z_555 st556 hQ552
   subst l_553 y_554 z_555
   obtain ⟨rfl, rfl, e562⟩ := hQ552
   have N563 := Fr.app N545 (Fr.nil n0)
   have k63 : o_J p e below T546 m 265 #[vI av, vI bv, vL vv, .second, vR r41, vR r78, vR ex119, vR mm120, vI (Int32.ofNat (List.length ms44)), vI (Int32.ofNat (List.length ms81)), vI (Int32.ofNat pn), vI dn, vI lnv, .unset] [(.int (ms44.getD 1 0)), (.int (ms123.getD 23 0))] B_ := fun t_ hh => k62 t_ (st556.trans hh)
   clear k62 st556 X532 e544
   have k64 : o_J p e below T546 m 270 #[vI av, vI bv, vL vv, .second, vR r41, vR r78, vR ex119, vR mm120, vI (Int32.ofNat (List.length ms44)), vI (Int32.ofNat (List.length ms81)), vI (Int32.ofNat pn), vI dn, vI lnv, .unset] [] B_ := fun t_ hh => k63 t_ (by
    refine XS.icmpYes X550.here hx rfl (pc0 := 265) (pc' := 270) rfl (hb hby at_265) rfl (o_icT_eq (o_c23 F137 (o_nlt2 F49.1 c249))) (by decide) (by decide) ?_
    exact hh)
   clear k63
   exact ⟨_, _, X550, e562, N563, trivial, k64⟩
 clear kk483
 have k65 : o_J p e below T521 m 277 #[vI av, vI bv, vL vv, .second, vR r41, vR r78, vR ex119, vR mm120, vI (Int32.ofNat (List.length ms44)), vI (Int32.ofNat (List.length ms81)), vI (Int32.ofNat pn), vI dn, vI lnv, .unset] [(.int ((22 : Int32) + (Int32.ofNat (List.length ms44)))), .ref mm120] B_ := fun t_ hh => kk526 t_ (by
  refine XS.aload X523.here hx rfl (hb hby at_270) rfl rfl ?_
  refine XS.bipush X523.here hx rfl (hb hby at_272) ?_
  refine XS.iload X523.here hx rfl (hb hby at_274) rfl ?_
  refine XS.iadd X523.here hx rfl (hb hby at_276) rfl ?_
  exact hh)
 clear kk526
 have k66 : o_J p e below T521 m 277 #[vI av, vI bv, vL vv, .second, vR r41, vR r78, vR ex119, vR mm120, vI (Int32.ofNat (List.length ms44)), vI (Int32.ofNat (List.length ms81)), vI (Int32.ofNat pn), vI dn, vI lnv, .unset] [(.int (Int32.ofNat (22 + (List.length ms44)))), .ref mm120] B_ := by have q := k65; rw [o_k22] at q; exact q
 obtain ⟨cq575, kq576, qa577, qb578, qc579⟩ := isOf hZ115 e524 F133
 obtain ⟨_, _, ⟨T564, L565, k_566, n_567⟩, -, X568, ⟨Lc569, hQ570, l_571, y_572, z_573⟩, st574⟩ := X523.virtualBack hx (y := ⟨oS, "charAt", "(I)C"⟩) (z := ⟨oS, "charAt", "(I)C"⟩) hown116 (mvT hZ115 (wT hw 362 rfl)) (mvT hZ115 (wT hw 363 rfl)) (notFace_of_selects (args := #[]) (mvT hZ115 (wT hw 365 rfl))) (mvT hZ115 (wT hw 365 rfl)) (mvT hZ115 (wT hw 364 rfl)) (by decide) (StrChars.Road.chN (W := 0) hZ115 (fun d hd => hw d (o_sub_wordsChN d hd)) (kI := 4) (wT hw 5 rfl) (i := (22 + (List.length ms44))) S_m.1 S_m.2.1 S_m.2.2.1 S_m.2.2.2 (o_cod hb8) (fun c hc => (hb8 c hc).up) (Sta.ext O152.2 sC) hc (Sta.ext O152.2 sG) hg hlm (o_iA F137) rfl (by decide) (by decide)) qa577 qc579 (g := (mkF m 277 #[vI av, vI bv, vL vv, .second, vR r41, vR r78, vR ex119, vR mm120, vI (Int32.ofNat (List.length ms44)), vI (Int32.ofNat (List.length ms81)), vI (Int32.ofNat pn), vI dn, vI lnv, .unset] [(.int (Int32.ofNat (22 + (List.length ms44)))), .ref mm120])) rfl (by rw [hml]; rfl) (Steps.refl _) (argsL := [(.int (Int32.ofNat (22 + (List.length ms44))))]) (rest := []) (lenOf o_h702 rfl) rfl (o_w0 rfl) (hb hby at_277) (fun _ _ => ⟨rfl, e524, o_l rfl, o_l rfl⟩)
 dsimp only [Pt.U, Pt.locs, Pt.cells, Pt.slots] at X568 l_571 y_572 z_573 st574 hQ570
 subst l_571 y_572 z_573
 obtain ⟨rfl, rfl, e580⟩ := hQ570
 have N581 := Fr.app N525 (Fr.nil n0)
 have k67 : o_J p e below T564 m 280 #[vI av, vI bv, vL vv, .second, vR r41, vR r78, vR ex119, vR mm120, vI (Int32.ofNat (List.length ms44)), vI (Int32.ofNat (List.length ms81)), vI (Int32.ofNat pn), vI dn, vI lnv, .unset] [(.int (ms123.getD (22 + (List.length ms44)) 0))] B_ := fun t_ hh => k66 t_ (st574.trans hh)
 clear k66 st574 X523 e524
 have k68 : o_J p e below T564 m 292 #[vI av, vI bv, vL vv, .second, vR r41, vR r78, vR ex119, vR mm120, vI (Int32.ofNat (List.length ms44)), vI (Int32.ofNat (List.length ms81)), vI (Int32.ofNat pn), vI dn, vI lnv, .unset] [(.int ((23 : Int32) + (Int32.ofNat (List.length ms44)))), .ref mm120] B_ := fun t_ hh => k67 t_ (by
  refine XS.bipush X568.here hx rfl (hb hby at_280) ?_
  refine XS.icmpNo X568.here hx rfl (hb hby at_282) rfl (o_icF_ne (o_cA F137)) ?_
  refine XS.aload X568.here hx rfl (hb hby at_285) rfl rfl ?_
  refine XS.bipush X568.here hx rfl (hb hby at_287) ?_
  refine XS.iload X568.here hx rfl (hb hby at_289) rfl ?_
  refine XS.iadd X568.here hx rfl (hb hby at_291) rfl ?_
  exact hh)
 clear k67
 have k69 : o_J p e below T564 m 292 #[vI av, vI bv, vL vv, .second, vR r41, vR r78, vR ex119, vR mm120, vI (Int32.ofNat (List.length ms44)), vI (Int32.ofNat (List.length ms81)), vI (Int32.ofNat pn), vI dn, vI lnv, .unset] [(.int (Int32.ofNat (23 + (List.length ms44)))), .ref mm120] B_ := by have q := k68; rw [o_k23] at q; exact q
 obtain ⟨cq593, kq594, qa595, qb596, qc597⟩ := isOf hZ115 e580 F133
 obtain ⟨_, _, ⟨T582, L583, k_584, n_585⟩, -, X586, ⟨Lc587, hQ588, l_589, y_590, z_591⟩, st592⟩ := X568.virtualBack hx (y := ⟨oS, "charAt", "(I)C"⟩) (z := ⟨oS, "charAt", "(I)C"⟩) hown116 (mvT hZ115 (wT hw 362 rfl)) (mvT hZ115 (wT hw 363 rfl)) (notFace_of_selects (args := #[]) (mvT hZ115 (wT hw 365 rfl))) (mvT hZ115 (wT hw 365 rfl)) (mvT hZ115 (wT hw 364 rfl)) (by decide) (StrChars.Road.chN (W := 0) hZ115 (fun d hd => hw d (o_sub_wordsChN d hd)) (kI := 4) (wT hw 5 rfl) (i := (23 + (List.length ms44))) S_m.1 S_m.2.1 S_m.2.2.1 S_m.2.2.2 (o_cod hb8) (fun c hc => (hb8 c hc).up) (Sta.ext O152.2 sC) hc (Sta.ext O152.2 sG) hg hlm (o_iB F137) rfl (by decide) (by decide)) qa595 qc597 (g := (mkF m 292 #[vI av, vI bv, vL vv, .second, vR r41, vR r78, vR ex119, vR mm120, vI (Int32.ofNat (List.length ms44)), vI (Int32.ofNat (List.length ms81)), vI (Int32.ofNat pn), vI dn, vI lnv, .unset] [(.int (Int32.ofNat (23 + (List.length ms44)))), .ref mm120])) rfl (by rw [hml]; rfl) (Steps.refl _) (argsL := [(.int (Int32.ofNat (23 + (List.length ms44))))]) (rest := []) (lenOf o_h702 rfl) rfl (o_w0 rfl) (hb hby at_292) (fun _ _ => ⟨rfl, e580, o_l rfl, o_l rfl⟩)
 dsimp only [Pt.U, Pt.locs, Pt.cells, Pt.slots] at X586 l_589 y_590 z_591 st592 hQ588
 subst l_589 y_590 z_591
 obtain ⟨rfl, rfl, e598⟩ := hQ588
 have N599 := Fr.app N581 (Fr.nil n0)
 have k70 : o_J p e below T582 m 295 #[vI av, vI bv, vL vv, .second, vR r41, vR r78, vR ex119, vR mm120, vI (Int32.ofNat (List.length ms44)), vI (Int32.ofNat (List.length ms81)), vI (Int32.ofNat pn), vI dn, vI lnv, .unset] [(.int (ms123.getD (23 + (List.length ms44)) 0))] B_ := fun t_ hh => k69 t_ (st592.trans hh)
 clear k69 st592 X568 e580
 have k71 : o_J p e below T582 m 302 #[vI av, vI bv, vL vv, .second, vR r41, vR r78, vR ex119, vR mm120, vI (Int32.ofNat (List.length ms44)), vI (Int32.ofNat (List.length ms81)), vI (Int32.ofNat pn), vI dn, vI lnv, .unset] [] B_ := fun t_ hh => k70 t_ (by
  refine XS.bipush X586.here hx rfl (hb hby at_295) ?_
  refine XS.icmpYes X586.here hx rfl (pc0 := 297) (pc' := 302) rfl (hb hby at_297) rfl (o_icT_eq (o_cB F137)) (by decide) (by decide) ?_
  exact hh)
 clear k70
 obtain ⟨T600, L601, X602, e603, N604, hM606, kk605⟩ : ∃ (T600 : State) (L601 : List Loc), Stand p l e room_1 (s.setVm T99.vm) m #[.int av, .int bv, .long vv] below meth c T600 L601 47 5349 ∧ T600.heap = T99.heap ∧ Fr n0 L601 ∧ (True) ∧ o_J p e below T600 m 329 #[vI av, vI bv, vL vv, .second, vR r41, vR r78, vR ex119, vR mm120, vI (Int32.ofNat (List.length ms44)), vI (Int32.ofNat (List.length ms81)), vI (Int32.ofNat pn), vI dn, vI lnv, .unset] [] B_ := by
  have k72 : o_J p e below T582 m 305 #[vI av, vI bv, vL vv, .second, vR r41, vR r78, vR ex119, vR mm120, vI (Int32.ofNat (List.length ms44)), vI (Int32.ofNat (List.length ms81)), vI (Int32.ofNat pn), vI dn, vI lnv, .unset] [(.int 1), (.int (Int32.ofNat (List.length ms81)))] B_ := fun t_ hh => k71 t_ (by
   refine XS.iload X586.here hx rfl (hb hby at_302) rfl ?_
   refine XS.iconst X586.here hx rfl (hb hby at_304) ?_
   exact hh)
  clear k71
  by_cases c305 : (Int32.ofNat (List.length ms81)) < (1 : Int32)
  ·
   have k73 : o_J p e below T582 m 329 #[vI av, vI bv, vL vv, .second, vR r41, vR r78, vR ex119, vR mm120, vI (Int32.ofNat (List.length ms44)), vI (Int32.ofNat (List.length ms81)), vI (Int32.ofNat pn), vI dn, vI lnv, .unset] [] B_ := fun t_ hh => k72 t_ (by
    refine XS.icmpYes X586.here hx rfl (pc0 := 305) (pc' := 329) rfl (hb hby at_305) rfl (o_icT_lt c305) (by decide) (by decide) ?_
    exact hh)
   clear k72
   exact ⟨_, _, X586, e598, N599, trivial, k73⟩
  ·
   have k74 : o_J p e below T582 m 315 #[vI av, vI bv, vL vv, .second, vR r41, vR r78, vR ex119, vR mm120, vI (Int32.ofNat (List.length ms44)), vI (Int32.ofNat (List.length ms81)), vI (Int32.ofNat pn), vI dn, vI lnv, .unset] [(.int ((31 : Int32) + (Int32.ofNat (List.length ms44)))), .ref mm120] B_ := fun t_ hh => k72 t_ (by
    refine XS.icmpNo X586.here hx rfl (hb hby at_305) rfl (o_icF_lt c305) ?_
    refine XS.aload X586.here hx rfl (hb hby at_308) rfl rfl ?_
    refine XS.bipush X586.here hx rfl (hb hby at_310) ?_
    refine XS.iload X586.here hx rfl (hb hby at_312) rfl ?_
    refine XS.iadd X586.here hx rfl (hb hby at_314) rfl ?_
    exact hh)
   clear k72
   have k75 : o_J p e below T582 m 315 #[vI av, vI bv, vL vv, .second, vR r41, vR r78, vR ex119, vR mm120, vI (Int32.ofNat (List.length ms44)), vI (Int32.ofNat (List.length ms81)), vI (Int32.ofNat pn), vI dn, vI lnv, .unset] [(.int (Int32.ofNat (31 + (List.length ms44)))), .ref mm120] B_ := by have q := k74; rw [o_k31] at q; exact q
   obtain ⟨cq618, kq619, qa620, qb621, qc622⟩ := isOf hZ115 e598 F133
   obtain ⟨_, _, ⟨T607, L608, k_609, n_610⟩, -, X611, ⟨Lc612, hQ613, l_614, y_615, z_616⟩, st617⟩ := X586.virtualBack hx (y := ⟨oS, "charAt", "(I)C"⟩) (z := ⟨oS, "charAt", "(I)C"⟩) hown116 (mvT hZ115 (wT hw 362 rfl)) (mvT hZ115 (wT hw 363 rfl)) (notFace_of_selects (args := #[]) (mvT hZ115 (wT hw 365 rfl))) (mvT hZ115 (wT hw 365 rfl)) (mvT hZ115 (wT hw 364 rfl)) (by decide) (StrChars.Road.chN (W := 0) hZ115 (fun d hd => hw d (o_sub_wordsChN d hd)) (kI := 4) (wT hw 5 rfl) (i := (31 + (List.length ms44))) S_m.1 S_m.2.1 S_m.2.2.1 S_m.2.2.2 (o_cod hb8) (fun c hc => (hb8 c hc).up) (Sta.ext O152.2 sC) hc (Sta.ext O152.2 sG) hg hlm (o_iC F137) rfl (by decide) (by decide)) qa620 qc622 (g := (mkF m 315 #[vI av, vI bv, vL vv, .second, vR r41, vR r78, vR ex119, vR mm120, vI (Int32.ofNat (List.length ms44)), vI (Int32.ofNat (List.length ms81)), vI (Int32.ofNat pn), vI dn, vI lnv, .unset] [(.int (Int32.ofNat (31 + (List.length ms44)))), .ref mm120])) rfl (by rw [hml]; rfl) (Steps.refl _) (argsL := [(.int (Int32.ofNat (31 + (List.length ms44))))]) (rest := []) (lenOf o_h702 rfl) rfl (o_w0 rfl) (hb hby at_315) (fun _ _ => ⟨rfl, e598, o_l rfl, o_l rfl⟩)
   dsimp only [Pt.U, Pt.locs, Pt.cells, Pt.slots] at X611 l_614 y_615 z_616 st617 hQ613
   subst l_614 y_615 z_616
   obtain ⟨rfl, rfl, e623⟩ := hQ613
   have N624 := Fr.app N599 (Fr.nil n0)
   have k76 : o_J p e below T607 m 318 #[vI av, vI bv, vL vv, .second, vR r41, vR r78, vR ex119, vR mm120, vI (Int32.ofNat (List.length ms44)), vI (Int32.ofNat (List.length ms81)), vI (Int32.ofNat pn), vI dn, vI lnv, .unset] [(.int (ms123.getD (31 + (List.length ms44)) 0))] B_ := fun t_ hh => k75 t_ (st617.trans hh)
   clear k75 st617 X586 e598
   have k77 : o_J p e below T607 m 321 #[vI av, vI bv, vL vv, .second, vR r41, vR r78, vR ex119, vR mm120, vI (Int32.ofNat (List.length ms44)), vI (Int32.ofNat (List.length ms81)), vI (Int32.ofNat pn), vI dn, vI lnv, .unset] [(.int 0), .ref r78, (.int (ms123.getD (31 + (List.length ms44)) 0))] B_ := fun t_ hh => k76 t_ (by
    refine XS.aload X611.here hx rfl (hb hby at_318) rfl rfl ?_
    refine XS.iconst X611.here hx rfl (hb hby at_320) ?_
    exact hh)
   clear k76
   obtain ⟨cq636, kq637, qa638, qb639, qc640⟩ := isOf hZ115 e623 F146
   obtain ⟨_, _, ⟨T625, L626, k_627, n_628⟩, -, X629, ⟨Lc630, hQ631, l_632, y_633, z_634⟩, st635⟩ := X611.virtualBack hx (y := ⟨oS, "charAt", "(I)C"⟩) (z := ⟨oS, "charAt", "(I)C"⟩) hown116 (mvT hZ115 (wT hw 362 rfl)) (mvT hZ115 (wT hw 363 rfl)) (notFace_of_selects (args := #[]) (mvT hZ115 (wT hw 365 rfl))) (mvT hZ115 (wT hw 365 rfl)) (mvT hZ115 (wT hw 364 rfl)) (by decide) (StrChars.Road.chN (W := 1) hZ115 (fun d hd => hw d (o_sub_wordsChN d hd)) (kI := 4) (wT hw 5 rfl) (i := 0) S_s2.1 S_s2.2.1 S_s2.2.2.1 S_s2.2.2.2 (o_cod F86.2) (fun c hc => (F86.2 c hc).up) (Sta.ext O152.2 sC) hc (Sta.ext O152.2 sG) hg (Nat.le_trans F86.1 (o_l rfl)) (o_nlt1 c305) rfl (by decide) (by decide)) qa638 qc640 (g := (mkF m 321 #[vI av, vI bv, vL vv, .second, vR r41, vR r78, vR ex119, vR mm120, vI (Int32.ofNat (List.length ms44)), vI (Int32.ofNat (List.length ms81)), vI (Int32.ofNat pn), vI dn, vI lnv, .unset] [(.int 0), .ref r78, (.int (ms123.getD (31 + (List.length ms44)) 0))])) rfl (by rw [hml]; rfl) (Steps.refl _) (argsL := [(.int 0)]) (rest := [(.int (ms123.getD (31 + (List.length ms44)) 0))]) (lenOf o_h702 rfl) rfl (o_w0 rfl) (hb hby at_321) (fun _ _ => ⟨rfl, e623, o_l rfl, o_l rfl⟩)
   dsimp only [Pt.U, Pt.locs, Pt.cells, Pt.slots] at X629 l_632 y_633 z_634 st635 hQ631
   subst l_632 y_633 z_634
   obtain ⟨rfl, rfl, e641⟩ := hQ631
   have N642 := Fr.app N624 (Fr.nil n0)
   have k78 : o_J p e below T625 m 324 #[vI av, vI bv, vL vv, .second, vR r41, vR r78, vR ex119, vR mm120, vI (Int32.ofNat (List.length ms44)), vI (Int32.ofNat (List.length ms81)), vI (Int32.ofNat pn), vI dn, vI lnv, .unset] [(.int (ms81.getD 0 0)), (.int (ms123.getD (31 + (List.length ms44)) 0))] B_ := fun t_ hh => k77 t_ (st635.trans hh)
   clear k77 st635 X611 e623
   have k79 : o_J p e below T625 m 329 #[vI av, vI bv, vL vv, .second, vR r41, vR r78, vR ex119, vR mm120, vI (Int32.ofNat (List.length ms44)), vI (Int32.ofNat (List.length ms81)), vI (Int32.ofNat pn), vI dn, vI lnv, .unset] [] B_ := fun t_ hh => k78 t_ (by
    refine XS.icmpYes X629.here hx rfl (pc0 := 324) (pc' := 329) rfl (hb hby at_324) rfl (o_icT_eq (o_cC F137 (o_nlt1 c305))) (by decide) (by decide) ?_
    exact hh)
   clear k78
   exact ⟨_, _, X629, e641, N642, trivial, k79⟩
 clear k71
 obtain ⟨T643, L644, X645, e646, N647, hM649, kk648⟩ : ∃ (T643 : State) (L644 : List Loc), Stand p l e room_1 (s.setVm T99.vm) m #[.int av, .int bv, .long vv] below meth c T643 L644 47 5349 ∧ T643.heap = T99.heap ∧ Fr n0 L644 ∧ (True) ∧ o_J p e below T643 m 356 #[vI av, vI bv, vL vv, .second, vR r41, vR r78, vR ex119, vR mm120, vI (Int32.ofNat (List.length ms44)), vI (Int32.ofNat (List.length ms81)), vI (Int32.ofNat pn), vI dn, vI lnv, .unset] [] B_ := by
  have k80 : o_J p e below T600 m 332 #[vI av, vI bv, vL vv, .second, vR r41, vR r78, vR ex119, vR mm120, vI (Int32.ofNat (List.length ms44)), vI (Int32.ofNat (List.length ms81)), vI (Int32.ofNat pn), vI dn, vI lnv, .unset] [(.int 2), (.int (Int32.ofNat (List.length ms81)))] B_ := fun t_ hh => kk605 t_ (by
   refine XS.iload X602.here hx rfl (hb hby at_329) rfl ?_
   refine XS.iconst X602.here hx rfl (hb hby at_331) ?_
   exact hh)
  clear kk605
  by_cases c332 : (Int32.ofNat (List.length ms81)) < (2 : Int32)
  ·
   have k81 : o_J p e below T600 m 356 #[vI av, vI bv, vL vv, .second, vR r41, vR r78, vR ex119, vR mm120, vI (Int32.ofNat (List.length ms44)), vI (Int32.ofNat (List.length ms81)), vI (Int32.ofNat pn), vI dn, vI lnv, .unset] [] B_ := fun t_ hh => k80 t_ (by
    refine XS.icmpYes X602.here hx rfl (pc0 := 332) (pc' := 356) rfl (hb hby at_332) rfl (o_icT_lt c332) (by decide) (by decide) ?_
    exact hh)
   clear k80
   exact ⟨_, _, X602, e603, N604, trivial, k81⟩
  ·
   have k82 : o_J p e below T600 m 342 #[vI av, vI bv, vL vv, .second, vR r41, vR r78, vR ex119, vR mm120, vI (Int32.ofNat (List.length ms44)), vI (Int32.ofNat (List.length ms81)), vI (Int32.ofNat pn), vI dn, vI lnv, .unset] [(.int ((32 : Int32) + (Int32.ofNat (List.length ms44)))), .ref mm120] B_ := fun t_ hh => k80 t_ (by
    refine XS.icmpNo X602.here hx rfl (hb hby at_332) rfl (o_icF_lt c332) ?_
    refine XS.aload X602.here hx rfl (hb hby at_335) rfl rfl ?_
    refine XS.bipush X602.here hx rfl (hb hby at_337) ?_
    refine XS.iload X602.here hx rfl (hb hby at_339) rfl ?_
    refine XS.iadd X602.here hx rfl (hb hby at_341) rfl ?_
    exact hh)
   clear k80
   have k83 : o_J p e below T600 m 342 #[vI av, vI bv, vL vv, .second, vR r41, vR r78, vR ex119, vR mm120, vI (Int32.ofNat (List.length ms44)), vI (Int32.ofNat (List.length ms81)), vI (Int32.ofNat pn), vI dn, vI lnv, .unset] [(.int (Int32.ofNat (32 + (List.length ms44)))), .ref mm120] B_ := by have q := k82; rw [o_k32] at q; exact q
   obtain ⟨cq661, kq662, qa663, qb664, qc665⟩ := isOf hZ115 e603 F133
   obtain ⟨_, _, ⟨T650, L651, k_652, n_653⟩, -, X654, ⟨Lc655, hQ656, l_657, y_658, z_659⟩, st660⟩ := X602.virtualBack hx (y := ⟨oS, "charAt", "(I)C"⟩) (z := ⟨oS, "charAt", "(I)C"⟩) hown116 (mvT hZ115 (wT hw 362 rfl)) (mvT hZ115 (wT hw 363 rfl)) (notFace_of_selects (args := #[]) (mvT hZ115 (wT hw 365 rfl))) (mvT hZ115 (wT hw 365 rfl)) (mvT hZ115 (wT hw 364 rfl)) (by decide) (StrChars.Road.chN (W := 0) hZ115 (fun d hd => hw d (o_sub_wordsChN d hd)) (kI := 4) (wT hw 5 rfl) (i := (32 + (List.length ms44))) S_m.1 S_m.2.1 S_m.2.2.1 S_m.2.2.2 (o_cod hb8) (fun c hc => (hb8 c hc).up) (Sta.ext O152.2 sC) hc (Sta.ext O152.2 sG) hg hlm (o_iD F137) rfl (by decide) (by decide)) qa663 qc665 (g := (mkF m 342 #[vI av, vI bv, vL vv, .second, vR r41, vR r78, vR ex119, vR mm120, vI (Int32.ofNat (List.length ms44)), vI (Int32.ofNat (List.length ms81)), vI (Int32.ofNat pn), vI dn, vI lnv, .unset] [(.int (Int32.ofNat (32 + (List.length ms44)))), .ref mm120])) rfl (by rw [hml]; rfl) (Steps.refl _) (argsL := [(.int (Int32.ofNat (32 + (List.length ms44))))]) (rest := []) (lenOf o_h702 rfl) rfl (o_w0 rfl) (hb hby at_342) (fun _ _ => ⟨rfl, e603, o_l rfl, o_l rfl⟩)
   dsimp only [Pt.U, Pt.locs, Pt.cells, Pt.slots] at X654 l_657 y_658 z_659 st660 hQ656
   subst l_657 y_658 z_659
   obtain ⟨rfl, rfl, e666⟩ := hQ656
   have N667 := Fr.app N604 (Fr.nil n0)
   have k84 : o_J p e below T650 m 345 #[vI av, vI bv, vL vv, .second, vR r41, vR r78, vR ex119, vR mm120, vI (Int32.ofNat (List.length ms44)), vI (Int32.ofNat (List.length ms81)), vI (Int32.ofNat pn), vI dn, vI lnv, .unset] [(.int (ms123.getD (32 + (List.length ms44)) 0))] B_ := fun t_ hh => k83 t_ (st660.trans hh)
   clear k83 st660 X602 e603
   have k85 : o_J p e below T650 m 348 #[vI av, vI bv, vL vv, .second, vR r41, vR r78, vR ex119, vR mm120, vI (Int32.ofNat (List.length ms44)), vI (Int32.ofNat (List.length ms81)), vI (Int32.ofNat pn), vI dn, vI lnv, .unset] [(.int 1), .ref r78, (.int (ms123.getD (32 + (List.length ms44)) 0))] B_ := fun t_ hh => k84 t_ (by
    refine XS.aload X654.here hx rfl (hb hby at_345) rfl rfl ?_
    refine XS.iconst X654.here hx rfl (hb hby at_347) ?_
    exact hh)
   clear k84
   obtain ⟨cq679, kq680, qa681, qb682, qc683⟩ := isOf hZ115 e666 F146
   obtain ⟨_, _, ⟨T668, L669, k_670, n_671⟩, -, X672, ⟨Lc673, hQ674, l_675, y_676, z_677⟩, st678⟩ := X654.virtualBack hx (y := ⟨oS, "charAt", "(I)C"⟩) (z := ⟨oS, "charAt", "(I)C"⟩) hown116 (mvT hZ115 (wT hw 362 rfl)) (mvT hZ115 (wT hw 363 rfl)) (notFace_of_selects (args := #[]) (mvT hZ115 (wT hw 365 rfl))) (mvT hZ115 (wT hw 365 rfl)) (mvT hZ115 (wT hw 364 rfl)) (by decide) (StrChars.Road.chN (W := 1) hZ115 (fun d hd => hw d (o_sub_wordsChN d hd)) (kI := 4) (wT hw 5 rfl) (i := 1) S_s2.1 S_s2.2.1 S_s2.2.2.1 S_s2.2.2.2 (o_cod F86.2) (fun c hc => (F86.2 c hc).up) (Sta.ext O152.2 sC) hc (Sta.ext O152.2 sG) hg (Nat.le_trans F86.1 (o_l rfl)) (o_nlt2 F86.1 c332) rfl (by decide) (by decide)) qa681 qc683 (g := (mkF m 348 #[vI av, vI bv, vL vv, .second, vR r41, vR r78, vR ex119, vR mm120, vI (Int32.ofNat (List.length ms44)), vI (Int32.ofNat (List.length ms81)), vI (Int32.ofNat pn), vI dn, vI lnv, .unset] [(.int 1), .ref r78, (.int (ms123.getD (32 + (List.length ms44)) 0))])) rfl (by rw [hml]; rfl) (Steps.refl _) (argsL := [(.int 1)]) (rest := [(.int (ms123.getD (32 + (List.length ms44)) 0))]) (lenOf o_h702 rfl) rfl (o_w0 rfl) (hb hby at_348) (fun _ _ => ⟨rfl, e666, o_l rfl, o_l rfl⟩)
   dsimp only [Pt.U, Pt.locs, Pt.cells, Pt.slots] at X672 l_675 y_676 z_677 st678 hQ674
   subst l_675 y_676 z_677
   obtain ⟨rfl, rfl, e684⟩ := hQ674
   have N685 := Fr.app N667 (Fr.nil n0)
   have k86 : o_J p e below T668 m 351 #[vI av, vI bv, vL vv, .second, vR r41, vR r78, vR ex119, vR mm120, vI (Int32.ofNat (List.length ms44)), vI (Int32.ofNat (List.length ms81)), vI (Int32.ofNat pn), vI dn, vI lnv, .unset] [(.int (ms81.getD 1 0)), (.int (ms123.getD (32 + (List.length ms44)) 0))] B_ := fun t_ hh => k85 t_ (st678.trans hh)
   clear k85 st678 X654 e666
   have k87 : o_J p e below T668 m 356 #[vI av, vI bv, vL vv, .second, vR r41, vR r78, vR ex119, vR mm120, vI (Int32.ofNat (List.length ms44)), vI (Int32.ofNat (List.length ms81)), vI (Int32.ofNat pn), vI dn, vI lnv, .unset] [] B_ := fun t_ hh => k86 t_ (by
    refine XS.icmpYes X672.here hx rfl (pc0 := 351) (pc' := 356) rfl (hb hby at_351) rfl (o_icT_eq (o_cD F137 (o_nlt2 F86.1 c332))) (by decide) (by decide) ?_
    exact hh)
   clear k86
   exact ⟨_, _, X672, e684, N685, trivial, k87⟩
 clear kk605
 have k88 : o_J p e below T643 m 366 #[vI av, vI bv, vL vv, .second, vR r41, vR r78, vR ex119, vR mm120, vI (Int32.ofNat (List.length ms44)), vI (Int32.ofNat (List.length ms81)), vI (Int32.ofNat pn), vI dn, vI lnv, .unset] [(.int (((31 : Int32) + (Int32.ofNat (List.length ms44))) + (Int32.ofNat (List.length ms81)))), .ref mm120] B_ := fun t_ hh => kk648 t_ (by
  refine XS.aload X645.here hx rfl (hb hby at_356) rfl rfl ?_
  refine XS.bipush X645.here hx rfl (hb hby at_358) ?_
  refine XS.iload X645.here hx rfl (hb hby at_360) rfl ?_
  refine XS.iadd X645.here hx rfl (hb hby at_362) rfl ?_
  refine XS.iload X645.here hx rfl (hb hby at_363) rfl ?_
  refine XS.iadd X645.here hx rfl (hb hby at_365) rfl ?_
  exact hh)
 clear kk648
 have k89 : o_J p e below T643 m 366 #[vI av, vI bv, vL vv, .second, vR r41, vR r78, vR ex119, vR mm120, vI (Int32.ofNat (List.length ms44)), vI (Int32.ofNat (List.length ms81)), vI (Int32.ofNat pn), vI dn, vI lnv, .unset] [(.int (Int32.ofNat (31 + (List.length ms44) + (List.length ms81)))), .ref mm120] B_ := by have q := k88; rw [o_k31, o_addN] at q; exact q
 obtain ⟨cq697, kq698, qa699, qb700, qc701⟩ := isOf hZ115 e646 F133
 obtain ⟨_, _, ⟨T686, L687, k_688, n_689⟩, -, X690, ⟨Lc691, hQ692, l_693, y_694, z_695⟩, st696⟩ := X645.virtualBack hx (y := ⟨oS, "charAt", "(I)C"⟩) (z := ⟨oS, "charAt", "(I)C"⟩) hown116 (mvT hZ115 (wT hw 362 rfl)) (mvT hZ115 (wT hw 363 rfl)) (notFace_of_selects (args := #[]) (mvT hZ115 (wT hw 365 rfl))) (mvT hZ115 (wT hw 365 rfl)) (mvT hZ115 (wT hw 364 rfl)) (by decide) (StrChars.Road.chN (W := 0) hZ115 (fun d hd => hw d (o_sub_wordsChN d hd)) (kI := 4) (wT hw 5 rfl) (i := (31 + (List.length ms44) + (List.length ms81))) S_m.1 S_m.2.1 S_m.2.2.1 S_m.2.2.2 (o_cod hb8) (fun c hc => (hb8 c hc).up) (Sta.ext O152.2 sC) hc (Sta.ext O152.2 sG) hg hlm (o_iE F137) rfl (by decide) (by decide)) qa699 qc701 (g := (mkF m 366 #[vI av, vI bv, vL vv, .second, vR r41, vR r78, vR ex119, vR mm120, vI (Int32.ofNat (List.length ms44)), vI (Int32.ofNat (List.length ms81)), vI (Int32.ofNat pn), vI dn, vI lnv, .unset] [(.int (Int32.ofNat (31 + (List.length ms44) + (List.length ms81)))), .ref mm120])) rfl (by rw [hml]; rfl) (Steps.refl _) (argsL := [(.int (Int32.ofNat (31 + (List.length ms44) + (List.length ms81))))]) (rest := []) (lenOf o_h702 rfl) rfl (o_w0 rfl) (hb hby at_366) (fun _ _ => ⟨rfl, e646, o_l rfl, o_l rfl⟩)
 dsimp only [Pt.U, Pt.locs, Pt.cells, Pt.slots] at X690 l_693 y_694 z_695 st696 hQ692
 subst l_693 y_694 z_695
 obtain ⟨rfl, rfl, e702⟩ := hQ692
 have N703 := Fr.app N647 (Fr.nil n0)
 have k90 : o_J p e below T686 m 369 #[vI av, vI bv, vL vv, .second, vR r41, vR r78, vR ex119, vR mm120, vI (Int32.ofNat (List.length ms44)), vI (Int32.ofNat (List.length ms81)), vI (Int32.ofNat pn), vI dn, vI lnv, .unset] [(.int (ms123.getD (31 + (List.length ms44) + (List.length ms81)) 0))] B_ := fun t_ hh => k89 t_ (st696.trans hh)
 clear k89 st696 X645 e646
 have k91 : o_J p e below T686 m 384 #[vI av, vI bv, vL vv, .second, vR r41, vR r78, vR ex119, vR mm120, vI (Int32.ofNat (List.length ms44)), vI (Int32.ofNat (List.length ms81)), vI (Int32.ofNat pn), vI dn, vI lnv, .unset] [(.int (((32 : Int32) + (Int32.ofNat (List.length ms44))) + (Int32.ofNat (List.length ms81)))), .ref mm120] B_ := fun t_ hh => k90 t_ (by
  refine XS.bipush X690.here hx rfl (hb hby at_369) ?_
  refine XS.icmpNo X690.here hx rfl (hb hby at_371) rfl (o_icF_ne (o_cE F137)) ?_
  refine XS.aload X690.here hx rfl (hb hby at_374) rfl rfl ?_
  refine XS.bipush X690.here hx rfl (hb hby at_376) ?_
  refine XS.iload X690.here hx rfl (hb hby at_378) rfl ?_
  refine XS.iadd X690.here hx rfl (hb hby at_380) rfl ?_
  refine XS.iload X690.here hx rfl (hb hby at_381) rfl ?_
  refine XS.iadd X690.here hx rfl (hb hby at_383) rfl ?_
  exact hh)
 clear k90
 have k92 : o_J p e below T686 m 384 #[vI av, vI bv, vL vv, .second, vR r41, vR r78, vR ex119, vR mm120, vI (Int32.ofNat (List.length ms44)), vI (Int32.ofNat (List.length ms81)), vI (Int32.ofNat pn), vI dn, vI lnv, .unset] [(.int (Int32.ofNat (32 + (List.length ms44) + (List.length ms81)))), .ref mm120] B_ := by have q := k91; rw [o_k32, o_addN] at q; exact q
 obtain ⟨cq715, kq716, qa717, qb718, qc719⟩ := isOf hZ115 e702 F133
 obtain ⟨_, _, ⟨T704, L705, k_706, n_707⟩, -, X708, ⟨Lc709, hQ710, l_711, y_712, z_713⟩, st714⟩ := X690.virtualBack hx (y := ⟨oS, "charAt", "(I)C"⟩) (z := ⟨oS, "charAt", "(I)C"⟩) hown116 (mvT hZ115 (wT hw 362 rfl)) (mvT hZ115 (wT hw 363 rfl)) (notFace_of_selects (args := #[]) (mvT hZ115 (wT hw 365 rfl))) (mvT hZ115 (wT hw 365 rfl)) (mvT hZ115 (wT hw 364 rfl)) (by decide) (StrChars.Road.chN (W := 0) hZ115 (fun d hd => hw d (o_sub_wordsChN d hd)) (kI := 4) (wT hw 5 rfl) (i := (32 + (List.length ms44) + (List.length ms81))) S_m.1 S_m.2.1 S_m.2.2.1 S_m.2.2.2 (o_cod hb8) (fun c hc => (hb8 c hc).up) (Sta.ext O152.2 sC) hc (Sta.ext O152.2 sG) hg hlm (o_iF F137) rfl (by decide) (by decide)) qa717 qc719 (g := (mkF m 384 #[vI av, vI bv, vL vv, .second, vR r41, vR r78, vR ex119, vR mm120, vI (Int32.ofNat (List.length ms44)), vI (Int32.ofNat (List.length ms81)), vI (Int32.ofNat pn), vI dn, vI lnv, .unset] [(.int (Int32.ofNat (32 + (List.length ms44) + (List.length ms81)))), .ref mm120])) rfl (by rw [hml]; rfl) (Steps.refl _) (argsL := [(.int (Int32.ofNat (32 + (List.length ms44) + (List.length ms81))))]) (rest := []) (lenOf o_h702 rfl) rfl (o_w0 rfl) (hb hby at_384) (fun _ _ => ⟨rfl, e702, o_l rfl, o_l rfl⟩)
 dsimp only [Pt.U, Pt.locs, Pt.cells, Pt.slots] at X708 l_711 y_712 z_713 st714 hQ710
 subst l_711 y_712 z_713
 obtain ⟨rfl, rfl, e720⟩ := hQ710
 have N721 := Fr.app N703 (Fr.nil n0)
 have k93 : o_J p e below T704 m 387 #[vI av, vI bv, vL vv, .second, vR r41, vR r78, vR ex119, vR mm120, vI (Int32.ofNat (List.length ms44)), vI (Int32.ofNat (List.length ms81)), vI (Int32.ofNat pn), vI dn, vI lnv, .unset] [(.int (ms123.getD (32 + (List.length ms44) + (List.length ms81)) 0))] B_ := fun t_ hh => k92 t_ (st714.trans hh)
 clear k92 st714 X690 e702
 have k94 : o_J p e below T704 m 398 #[vI av, vI bv, vL vv, .second, vR r41, vR r78, vR ex119, vR mm120, vI (Int32.ofNat (List.length ms44)), vI (Int32.ofNat (List.length ms81)), vI (Int32.ofNat pn), vI dn, vI lnv, .unset] [(.int (Int32.ofNat pn)), .ref mm120] B_ := fun t_ hh => k93 t_ (by
  refine XS.bipush X708.here hx rfl (hb hby at_387) ?_
  refine XS.icmpYes X708.here hx rfl (pc0 := 389) (pc' := 394) rfl (hb hby at_389) rfl (o_icT_eq (o_cF F137)) (by decide) (by decide) ?_
  refine XS.aload X708.here hx rfl (hb hby at_394) rfl rfl ?_
  refine XS.iload X708.here hx rfl (hb hby at_396) rfl ?_
  exact hh)
 clear k93
 obtain ⟨cq733, kq734, qa735, qb736, qc737⟩ := isOf hZ115 e720 F133
 obtain ⟨_, _, ⟨T722, L723, k_724, n_725⟩, -, X726, ⟨Lc727, hQ728, l_729, y_730, z_731⟩, st732⟩ := X708.virtualBack hx (y := ⟨oS, "charAt", "(I)C"⟩) (z := ⟨oS, "charAt", "(I)C"⟩) hown116 (mvT hZ115 (wT hw 362 rfl)) (mvT hZ115 (wT hw 363 rfl)) (notFace_of_selects (args := #[]) (mvT hZ115 (wT hw 365 rfl))) (mvT hZ115 (wT hw 365 rfl)) (mvT hZ115 (wT hw 364 rfl)) (by decide) (StrChars.Road.chN (W := 0) hZ115 (fun d hd => hw d (o_sub_wordsChN d hd)) (kI := 4) (wT hw 5 rfl) (i := pn) S_m.1 S_m.2.1 S_m.2.2.1 S_m.2.2.2 (o_cod hb8) (fun c hc => (hb8 c hc).up) (Sta.ext O152.2 sC) hc (Sta.ext O152.2 sG) hg hlm (o_iP F137 epn) rfl (by decide) (by decide)) qa735 qc737 (g := (mkF m 398 #[vI av, vI bv, vL vv, .second, vR r41, vR r78, vR ex119, vR mm120, vI (Int32.ofNat (List.length ms44)), vI (Int32.ofNat (List.length ms81)), vI (Int32.ofNat pn), vI dn, vI lnv, .unset] [(.int (Int32.ofNat pn)), .ref mm120])) rfl (by rw [hml]; rfl) (Steps.refl _) (argsL := [(.int (Int32.ofNat pn))]) (rest := []) (lenOf o_h702 rfl) rfl (o_w0 rfl) (hb hby at_398) (fun _ _ => ⟨rfl, e720, o_l rfl, o_l rfl⟩)
 dsimp only [Pt.U, Pt.locs, Pt.cells, Pt.slots] at X726 l_729 y_730 z_731 st732 hQ728
 subst l_729 y_730 z_731
 obtain ⟨rfl, rfl, e738⟩ := hQ728
 have N739 := Fr.app N721 (Fr.nil n0)
 have k95 : o_J p e below T722 m 401 #[vI av, vI bv, vL vv, .second, vR r41, vR r78, vR ex119, vR mm120, vI (Int32.ofNat (List.length ms44)), vI (Int32.ofNat (List.length ms81)), vI (Int32.ofNat pn), vI dn, vI lnv, .unset] [(.int (ms123.getD pn 0))] B_ := fun t_ hh => k94 t_ (st732.trans hh)
 clear k94 st732 X708 e720
 have k96 : o_J p e below T722 m 411 #[vI av, vI bv, vL vv, .second, vR r41, vR r78, vR ex119, vR mm120, vI (Int32.ofNat (List.length ms44)), vI (Int32.ofNat (List.length ms81)), vI (Int32.ofNat pn), vI dn, vI lnv, .unset] [(.int (lcmpW vv (0 : Int64)))] B_ := fun t_ hh => k95 t_ (by
  refine XS.bipush X726.here hx rfl (hb hby at_401) ?_
  refine XS.icmpYes X726.here hx rfl (pc0 := 403) (pc' := 408) rfl (hb hby at_403) rfl (o_icT_eq (o_cP F137 epn)) (by decide) (by decide) ?_
  refine XS.lloadN X726.here hx rfl (hb hby at_408) rfl ?_
  refine XS.lconst X726.here hx rfl (hb hby at_409) ?_
  refine XS.lcmp X726.here hx rfl (hb hby at_410) rfl ?_
  exact hh)
 clear k95
 by_cases c411 : (lcmpW vv (0 : Int64)) < 0
 ·
  have k97 : o_J p e below T722 m 421 #[vI av, vI bv, vL vv, .second, vR r41, vR r78, vR ex119, vR mm120, vI (Int32.ofNat (List.length ms44)), vI (Int32.ofNat (List.length ms81)), vI (Int32.ofNat pn), vI dn, vI lnv, .unset] [(.int ((Int32.ofNat pn) + (9 : Int32))), .ref mm120] B_ := fun t_ hh => k96 t_ (by
   refine XS.ifNo X726.here hx rfl (hb hby at_411) rfl (o_ifF_ge c411) ?_
   refine XS.aload X726.here hx rfl (hb hby at_414) rfl rfl ?_
   refine XS.iload X726.here hx rfl (hb hby at_416) rfl ?_
   refine XS.bipush X726.here hx rfl (hb hby at_418) ?_
   refine XS.iadd X726.here hx rfl (hb hby at_420) rfl ?_
   exact hh)
  clear k96
  have k98 : o_J p e below T722 m 421 #[vI av, vI bv, vL vv, .second, vR r41, vR r78, vR ex119, vR mm120, vI (Int32.ofNat (List.length ms44)), vI (Int32.ofNat (List.length ms81)), vI (Int32.ofNat pn), vI dn, vI lnv, .unset] [(.int (Int32.ofNat (pn + 9))), .ref mm120] B_ := by have q := k97; rw [o_j9] at q; exact q
  obtain ⟨cq751, kq752, qa753, qb754, qc755⟩ := isOf hZ115 e738 F133
  obtain ⟨_, _, ⟨T740, L741, k_742, n_743⟩, -, X744, ⟨Lc745, hQ746, l_747, y_748, z_749⟩, st750⟩ := X726.virtualBack hx (y := ⟨oS, "charAt", "(I)C"⟩) (z := ⟨oS, "charAt", "(I)C"⟩) hown116 (mvT hZ115 (wT hw 362 rfl)) (mvT hZ115 (wT hw 363 rfl)) (notFace_of_selects (args := #[]) (mvT hZ115 (wT hw 365 rfl))) (mvT hZ115 (wT hw 365 rfl)) (mvT hZ115 (wT hw 364 rfl)) (by decide) (StrChars.Road.chN (W := 0) hZ115 (fun d hd => hw d (o_sub_wordsChN d hd)) (kI := 4) (wT hw 5 rfl) (i := (pn + 9)) S_m.1 S_m.2.1 S_m.2.2.1 S_m.2.2.2 (o_cod hb8) (fun c hc => (hb8 c hc).up) (Sta.ext O152.2 sC) hc (Sta.ext O152.2 sG) hg hlm (o_iP9 F137 epn) rfl (by decide) (by decide)) qa753 qc755 (g := (mkF m 421 #[vI av, vI bv, vL vv, .second, vR r41, vR r78, vR ex119, vR mm120, vI (Int32.ofNat (List.length ms44)), vI (Int32.ofNat (List.length ms81)), vI (Int32.ofNat pn), vI dn, vI lnv, .unset] [(.int (Int32.ofNat (pn + 9))), .ref mm120])) rfl (by rw [hml]; rfl) (Steps.refl _) (argsL := [(.int (Int32.ofNat (pn + 9)))]) (rest := []) (lenOf o_h702 rfl) rfl (o_w0 rfl) (hb hby at_421) (fun _ _ => ⟨rfl, e738, o_l rfl, o_l rfl⟩)
  dsimp only [Pt.U, Pt.locs, Pt.cells, Pt.slots] at X744 l_747 y_748 z_749 st750 hQ746
  subst l_747 y_748 z_749
  obtain ⟨rfl, rfl, e756⟩ := hQ746
  have N757 := Fr.app N739 (Fr.nil n0)
  have k99 : o_J p e below T740 m 424 #[vI av, vI bv, vL vv, .second, vR r41, vR r78, vR ex119, vR mm120, vI (Int32.ofNat (List.length ms44)), vI (Int32.ofNat (List.length ms81)), vI (Int32.ofNat pn), vI dn, vI lnv, .unset] [(.int (ms123.getD (pn + 9) 0))] B_ := fun t_ hh => k98 t_ (st750.trans hh)
  clear k98 st750 X726 e738
  have k100 : o_J p e below T740 m 436 #[vI av, vI bv, vL vv, .second, vR r41, vR r78, vR ex119, vR mm120, vI (Int32.ofNat (List.length ms44)), vI (Int32.ofNat (List.length ms81)), vI (Int32.ofNat pn), vI dn, vI lnv, .unset] [(.int ((Int32.ofNat pn) + (24 : Int32))), .ref mm120] B_ := fun t_ hh => k99 t_ (by
   refine XS.bipush X744.here hx rfl (hb hby at_424) ?_
   refine XS.icmpNo X744.here hx rfl (hb hby at_426) rfl (o_icF_ne (o_cN9 F137 epn c411)) ?_
   refine XS.aload X744.here hx rfl (hb hby at_429) rfl rfl ?_
   refine XS.iload X744.here hx rfl (hb hby at_431) rfl ?_
   refine XS.bipush X744.here hx rfl (hb hby at_433) ?_
   refine XS.iadd X744.here hx rfl (hb hby at_435) rfl ?_
   exact hh)
  clear k99
  have k101 : o_J p e below T740 m 436 #[vI av, vI bv, vL vv, .second, vR r41, vR r78, vR ex119, vR mm120, vI (Int32.ofNat (List.length ms44)), vI (Int32.ofNat (List.length ms81)), vI (Int32.ofNat pn), vI dn, vI lnv, .unset] [(.int (Int32.ofNat (pn + 24))), .ref mm120] B_ := by have q := k100; rw [o_j24] at q; exact q
  obtain ⟨cq769, kq770, qa771, qb772, qc773⟩ := isOf hZ115 e756 F133
  obtain ⟨_, _, ⟨T758, L759, k_760, n_761⟩, -, X762, ⟨Lc763, hQ764, l_765, y_766, z_767⟩, st768⟩ := X744.virtualBack hx (y := ⟨oS, "charAt", "(I)C"⟩) (z := ⟨oS, "charAt", "(I)C"⟩) hown116 (mvT hZ115 (wT hw 362 rfl)) (mvT hZ115 (wT hw 363 rfl)) (notFace_of_selects (args := #[]) (mvT hZ115 (wT hw 365 rfl))) (mvT hZ115 (wT hw 365 rfl)) (mvT hZ115 (wT hw 364 rfl)) (by decide) (StrChars.Road.chN (W := 0) hZ115 (fun d hd => hw d (o_sub_wordsChN d hd)) (kI := 4) (wT hw 5 rfl) (i := (pn + 24)) S_m.1 S_m.2.1 S_m.2.2.1 S_m.2.2.2 (o_cod hb8) (fun c hc => (hb8 c hc).up) (Sta.ext O152.2 sC) hc (Sta.ext O152.2 sG) hg hlm (o_iP24 F137 epn) rfl (by decide) (by decide)) qa771 qc773 (g := (mkF m 436 #[vI av, vI bv, vL vv, .second, vR r41, vR r78, vR ex119, vR mm120, vI (Int32.ofNat (List.length ms44)), vI (Int32.ofNat (List.length ms81)), vI (Int32.ofNat pn), vI dn, vI lnv, .unset] [(.int (Int32.ofNat (pn + 24))), .ref mm120])) rfl (by rw [hml]; rfl) (Steps.refl _) (argsL := [(.int (Int32.ofNat (pn + 24)))]) (rest := []) (lenOf o_h702 rfl) rfl (o_w0 rfl) (hb hby at_436) (fun _ _ => ⟨rfl, e756, o_l rfl, o_l rfl⟩)
  dsimp only [Pt.U, Pt.locs, Pt.cells, Pt.slots] at X762 l_765 y_766 z_767 st768 hQ764
  subst l_765 y_766 z_767
  obtain ⟨rfl, rfl, e774⟩ := hQ764
  have N775 := Fr.app N757 (Fr.nil n0)
  have k102 : o_J p e below T758 m 439 #[vI av, vI bv, vL vv, .second, vR r41, vR r78, vR ex119, vR mm120, vI (Int32.ofNat (List.length ms44)), vI (Int32.ofNat (List.length ms81)), vI (Int32.ofNat pn), vI dn, vI lnv, .unset] [(.int (ms123.getD (pn + 24) 0))] B_ := fun t_ hh => k101 t_ (st768.trans hh)
  clear k101 st768 X744 e756
  have k103 : o_J p e below T758 m 449 #[vI av, vI bv, vL vv, .second, vR r41, vR r78, vR ex119, vR mm120, vI (Int32.ofNat (List.length ms44)), vI (Int32.ofNat (List.length ms81)), vI (Int32.ofNat pn), vI dn, vI lnv, .unset] [(.int 1)] B_ := fun t_ hh => k102 t_ (by
   refine XS.bipush X762.here hx rfl (hb hby at_439) ?_
   refine XS.icmpNo X762.here hx rfl (hb hby at_441) rfl (o_icF_ne (o_cN24 F137 epn c411)) ?_
   refine XS.iconst X762.here hx rfl (hb hby at_444) ?_
   refine XS.goto X762.here hx rfl (pc0 := 445) (pc' := 449) rfl (hb hby at_445) (by decide) (by decide) ?_
   exact hh)
  clear k102
  obtain ⟨fs, hr, hrun, hended, hEnd⟩ := X762.leaveW hS114 (by rw [e774]; exact (Nat.le_refl T99.heap.size)) (v := some (.int 1)) (fun h => by rw [Bd.returns] at h; cases h)
  refine ⟨_, _, (o_from hB_ (k103 _ (retN X762 hx (t := .boolean) Bd.returns (by simp) (hb hby at_449) hr))), hrun, hended, _, _, rfl, ?_, hEnd.1, hEnd.2.1, hEnd.2.2.1, hEnd.2.2.2.mono (o_l rfl) (o_l rfl)⟩
  show QL h0 n0 _ T758.heap _
  rw [e774]
  exact ⟨rfl, N775⟩
 ·
  have k104 : o_J p e below T722 m 469 #[vI av, vI bv, vL vv, .second, vR r41, vR r78, vR ex119, vR mm120, vI (Int32.ofNat (List.length ms44)), vI (Int32.ofNat (List.length ms81)), vI (Int32.ofNat pn), vI dn, vI lnv, vI (((48 : Int32) + ((vv - (vv / (10 : Int64)) * (10 : Int64)).toInt32)).toUInt32.toUInt16.toUInt32.toInt32)] [(.int ((Int32.ofNat pn) + (9 : Int32))), .ref mm120] B_ := fun t_ hh => k96 t_ (by
   refine XS.ifYes X726.here hx rfl (pc0 := 411) (pc' := 450) rfl (hb hby at_411) rfl (o_ifT_ge c411) (by decide) (by decide) ?_
   refine XS.bipush X726.here hx rfl (hb hby at_450) ?_
   refine XS.lloadN X726.here hx rfl (hb hby at_452) rfl ?_
   refine X726.ldc2Long hx hown116 (mvT hZ115 (wT hw 344 rfl)) (g := (mkF m 453 #[vI av, vI bv, vL vv, .second, vR r41, vR r78, vR ex119, vR mm120, vI (Int32.ofNat (List.length ms44)), vI (Int32.ofNat (List.length ms81)), vI (Int32.ofNat pn), vI dn, vI lnv, .unset] [.long vv, (.int 48)])) rfl (hb hby at_453) _ ?_
   refine XS.lrem X726.here hx rfl (hb hby at_456) rfl (by decide) ?_
   refine XS.l2i X726.here hx rfl (hb hby at_457) rfl ?_
   refine XS.iadd X726.here hx rfl (hb hby at_458) rfl ?_
   refine XS.i2c X726.here hx rfl (hb hby at_459) rfl ?_
   refine XS.istore X726.here hx rfl (hb hby at_460) rfl (l' := #[vI av, vI bv, vL vv, .second, vR r41, vR r78, vR ex119, vR mm120, vI (Int32.ofNat (List.length ms44)), vI (Int32.ofNat (List.length ms81)), vI (Int32.ofNat pn), vI dn, vI lnv, vI (((48 : Int32) + ((vv - (vv / (10 : Int64)) * (10 : Int64)).toInt32)).toUInt32.toUInt16.toUInt32.toInt32)]) rfl ?_
   refine XS.aload X726.here hx rfl (hb hby at_462) rfl rfl ?_
   refine XS.iload X726.here hx rfl (hb hby at_464) rfl ?_
   refine XS.bipush X726.here hx rfl (hb hby at_466) ?_
   show Steps p.tables e below (T722.setTop (mkF m 468 #[vI av, vI bv, vL vv, .second, vR r41, vR r78, vR ex119, vR mm120, vI (Int32.ofNat (List.length ms44)), vI (Int32.ofNat (List.length ms81)), vI (Int32.ofNat pn), vI dn, vI lnv, vI (((48 : Int32) + ((vv - (vv / (10 : Int64)) * (10 : Int64)).toInt32)).toUInt32.toUInt16.toUInt32.toInt32)] [(.int 9), (.int (Int32.ofNat pn)), .ref mm120])) _
   refine XS.iadd X726.here hx rfl (hb hby at_468) rfl ?_
   exact hh)
  clear k96
  have k105 : o_J p e below T722 m 469 #[vI av, vI bv, vL vv, .second, vR r41, vR r78, vR ex119, vR mm120, vI (Int32.ofNat (List.length ms44)), vI (Int32.ofNat (List.length ms81)), vI (Int32.ofNat pn), vI dn, vI lnv, vI (((48 : Int32) + ((vv - (vv / (10 : Int64)) * (10 : Int64)).toInt32)).toUInt32.toUInt16.toUInt32.toInt32)] [(.int (Int32.ofNat (pn + 9))), .ref mm120] B_ := by have q := k104; rw [o_j9] at q; exact q
  obtain ⟨cq787, kq788, qa789, qb790, qc791⟩ := isOf hZ115 e738 F133
  obtain ⟨_, _, ⟨T776, L777, k_778, n_779⟩, -, X780, ⟨Lc781, hQ782, l_783, y_784, z_785⟩, st786⟩ := X726.virtualBack hx (y := ⟨oS, "charAt", "(I)C"⟩) (z := ⟨oS, "charAt", "(I)C"⟩) hown116 (mvT hZ115 (wT hw 362 rfl)) (mvT hZ115 (wT hw 363 rfl)) (notFace_of_selects (args := #[]) (mvT hZ115 (wT hw 365 rfl))) (mvT hZ115 (wT hw 365 rfl)) (mvT hZ115 (wT hw 364 rfl)) (by decide) (StrChars.Road.chN (W := 0) hZ115 (fun d hd => hw d (o_sub_wordsChN d hd)) (kI := 4) (wT hw 5 rfl) (i := (pn + 9)) S_m.1 S_m.2.1 S_m.2.2.1 S_m.2.2.2 (o_cod hb8) (fun c hc => (hb8 c hc).up) (Sta.ext O152.2 sC) hc (Sta.ext O152.2 sG) hg hlm (o_iP9 F137 epn) rfl (by decide) (by decide)) qa789 qc791 (g := (mkF m 469 #[vI av, vI bv, vL vv, .second, vR r41, vR r78, vR ex119, vR mm120, vI (Int32.ofNat (List.length ms44)), vI (Int32.ofNat (List.length ms81)), vI (Int32.ofNat pn), vI dn, vI lnv, vI (((48 : Int32) + ((vv - (vv / (10 : Int64)) * (10 : Int64)).toInt32)).toUInt32.toUInt16.toUInt32.toInt32)] [(.int (Int32.ofNat (pn + 9))), .ref mm120])) rfl (by rw [hml]; rfl) (Steps.refl _) (argsL := [(.int (Int32.ofNat (pn + 9)))]) (rest := []) (lenOf o_h702 rfl) rfl (o_w0 rfl) (hb hby at_469) (fun _ _ => ⟨rfl, e738, o_l rfl, o_l rfl⟩)
  dsimp only [Pt.U, Pt.locs, Pt.cells, Pt.slots] at X780 l_783 y_784 z_785 st786 hQ782
  subst l_783 y_784 z_785
  obtain ⟨rfl, rfl, e792⟩ := hQ782
  have N793 := Fr.app N739 (Fr.nil n0)
  have k106 : o_J p e below T776 m 472 #[vI av, vI bv, vL vv, .second, vR r41, vR r78, vR ex119, vR mm120, vI (Int32.ofNat (List.length ms44)), vI (Int32.ofNat (List.length ms81)), vI (Int32.ofNat pn), vI dn, vI lnv, vI (((48 : Int32) + ((vv - (vv / (10 : Int64)) * (10 : Int64)).toInt32)).toUInt32.toUInt16.toUInt32.toInt32)] [(.int (ms123.getD (pn + 9) 0))] B_ := fun t_ hh => k105 t_ (st786.trans hh)
  clear k105 st786 X726 e738
  have k107 : o_J p e below T776 m 484 #[vI av, vI bv, vL vv, .second, vR r41, vR r78, vR ex119, vR mm120, vI (Int32.ofNat (List.length ms44)), vI (Int32.ofNat (List.length ms81)), vI (Int32.ofNat pn), vI dn, vI lnv, vI (((48 : Int32) + ((vv - (vv / (10 : Int64)) * (10 : Int64)).toInt32)).toUInt32.toUInt16.toUInt32.toInt32)] [(.int ((Int32.ofNat pn) + (25 : Int32))), .ref mm120] B_ := fun t_ hh => k106 t_ (by
   refine XS.bipush X780.here hx rfl (hb hby at_472) ?_
   refine XS.icmpNo X780.here hx rfl (hb hby at_474) rfl (o_icF_ne (o_cP9 F137 epn c411)) ?_
   refine XS.aload X780.here hx rfl (hb hby at_477) rfl rfl ?_
   refine XS.iload X780.here hx rfl (hb hby at_479) rfl ?_
   refine XS.bipush X780.here hx rfl (hb hby at_481) ?_
   refine XS.iadd X780.here hx rfl (hb hby at_483) rfl ?_
   exact hh)
  clear k106
  have k108 : o_J p e below T776 m 484 #[vI av, vI bv, vL vv, .second, vR r41, vR r78, vR ex119, vR mm120, vI (Int32.ofNat (List.length ms44)), vI (Int32.ofNat (List.length ms81)), vI (Int32.ofNat pn), vI dn, vI lnv, vI (((48 : Int32) + ((vv - (vv / (10 : Int64)) * (10 : Int64)).toInt32)).toUInt32.toUInt16.toUInt32.toInt32)] [(.int (Int32.ofNat (pn + 25))), .ref mm120] B_ := by have q := k107; rw [o_j25] at q; exact q
  obtain ⟨cq805, kq806, qa807, qb808, qc809⟩ := isOf hZ115 e792 F133
  obtain ⟨_, _, ⟨T794, L795, k_796, n_797⟩, -, X798, ⟨Lc799, hQ800, l_801, y_802, z_803⟩, st804⟩ := X780.virtualBack hx (y := ⟨oS, "charAt", "(I)C"⟩) (z := ⟨oS, "charAt", "(I)C"⟩) hown116 (mvT hZ115 (wT hw 362 rfl)) (mvT hZ115 (wT hw 363 rfl)) (notFace_of_selects (args := #[]) (mvT hZ115 (wT hw 365 rfl))) (mvT hZ115 (wT hw 365 rfl)) (mvT hZ115 (wT hw 364 rfl)) (by decide) (StrChars.Road.chN (W := 0) hZ115 (fun d hd => hw d (o_sub_wordsChN d hd)) (kI := 4) (wT hw 5 rfl) (i := (pn + 25)) S_m.1 S_m.2.1 S_m.2.2.1 S_m.2.2.2 (o_cod hb8) (fun c hc => (hb8 c hc).up) (Sta.ext O152.2 sC) hc (Sta.ext O152.2 sG) hg hlm (o_iP25 F137 epn c411) rfl (by decide) (by decide)) qa807 qc809 (g := (mkF m 484 #[vI av, vI bv, vL vv, .second, vR r41, vR r78, vR ex119, vR mm120, vI (Int32.ofNat (List.length ms44)), vI (Int32.ofNat (List.length ms81)), vI (Int32.ofNat pn), vI dn, vI lnv, vI (((48 : Int32) + ((vv - (vv / (10 : Int64)) * (10 : Int64)).toInt32)).toUInt32.toUInt16.toUInt32.toInt32)] [(.int (Int32.ofNat (pn + 25))), .ref mm120])) rfl (by rw [hml]; rfl) (Steps.refl _) (argsL := [(.int (Int32.ofNat (pn + 25)))]) (rest := []) (lenOf o_h702 rfl) rfl (o_w0 rfl) (hb hby at_484) (fun _ _ => ⟨rfl, e792, o_l rfl, o_l rfl⟩)
  dsimp only [Pt.U, Pt.locs, Pt.cells, Pt.slots] at X798 l_801 y_802 z_803 st804 hQ800
  subst l_801 y_802 z_803
  obtain ⟨rfl, rfl, e810⟩ := hQ800
  have N811 := Fr.app N793 (Fr.nil n0)
  have k109 : o_J p e below T794 m 487 #[vI av, vI bv, vL vv, .second, vR r41, vR r78, vR ex119, vR mm120, vI (Int32.ofNat (List.length ms44)), vI (Int32.ofNat (List.length ms81)), vI (Int32.ofNat pn), vI dn, vI lnv, vI (((48 : Int32) + ((vv - (vv / (10 : Int64)) * (10 : Int64)).toInt32)).toUInt32.toUInt16.toUInt32.toInt32)] [(.int (ms123.getD (pn + 25) 0))] B_ := fun t_ hh => k108 t_ (st804.trans hh)
  clear k108 st804 X780 e792
  have k110 : o_J p e below T794 m 502 #[vI av, vI bv, vL vv, .second, vR r41, vR r78, vR ex119, vR mm120, vI (Int32.ofNat (List.length ms44)), vI (Int32.ofNat (List.length ms81)), vI (Int32.ofNat pn), vI dn, vI lnv, vI (((48 : Int32) + ((vv - (vv / (10 : Int64)) * (10 : Int64)).toInt32)).toUInt32.toUInt16.toUInt32.toInt32)] [(.int (((Int32.ofNat pn) + (25 : Int32)) + dn)), .ref mm120] B_ := fun t_ hh => k109 t_ (by
   refine XS.bipush X798.here hx rfl (hb hby at_487) ?_
   refine XS.icmpNo X798.here hx rfl (hb hby at_489) rfl (o_icF_ne (o_cP25 F137 epn c411)) ?_
   refine XS.aload X798.here hx rfl (hb hby at_492) rfl rfl ?_
   refine XS.iload X798.here hx rfl (hb hby at_494) rfl ?_
   refine XS.bipush X798.here hx rfl (hb hby at_496) ?_
   refine XS.iadd X798.here hx rfl (hb hby at_498) rfl ?_
   refine XS.iload X798.here hx rfl (hb hby at_499) rfl ?_
   refine XS.iadd X798.here hx rfl (hb hby at_501) rfl ?_
   exact hh)
  clear k109
  have k111 : o_J p e below T794 m 502 #[vI av, vI bv, vL vv, .second, vR r41, vR r78, vR ex119, vR mm120, vI (Int32.ofNat (List.length ms44)), vI (Int32.ofNat (List.length ms81)), vI (Int32.ofNat pn), vI dn, vI lnv, vI (((48 : Int32) + ((vv - (vv / (10 : Int64)) * (10 : Int64)).toInt32)).toUInt32.toUInt16.toUInt32.toInt32)] [(.int (Int32.ofNat (pn + 25 + (Jvm.Free.SBG.digitsL vv.toInt.toNat)))), .ref mm120] B_ := by have q := k110; rw [o_dn25 (o_dnP hdn c411)] at q; exact q
  obtain ⟨cq823, kq824, qa825, qb826, qc827⟩ := isOf hZ115 e810 F133
  obtain ⟨_, _, ⟨T812, L813, k_814, n_815⟩, -, X816, ⟨Lc817, hQ818, l_819, y_820, z_821⟩, st822⟩ := X798.virtualBack hx (y := ⟨oS, "charAt", "(I)C"⟩) (z := ⟨oS, "charAt", "(I)C"⟩) hown116 (mvT hZ115 (wT hw 362 rfl)) (mvT hZ115 (wT hw 363 rfl)) (notFace_of_selects (args := #[]) (mvT hZ115 (wT hw 365 rfl))) (mvT hZ115 (wT hw 365 rfl)) (mvT hZ115 (wT hw 364 rfl)) (by decide) (StrChars.Road.chN (W := 0) hZ115 (fun d hd => hw d (o_sub_wordsChN d hd)) (kI := 4) (wT hw 5 rfl) (i := (pn + 25 + (Jvm.Free.SBG.digitsL vv.toInt.toNat))) S_m.1 S_m.2.1 S_m.2.2.1 S_m.2.2.2 (o_cod hb8) (fun c hc => (hb8 c hc).up) (Sta.ext O152.2 sC) hc (Sta.ext O152.2 sG) hg hlm (o_iPd F137 epn c411) rfl (by decide) (by decide)) qa825 qc827 (g := (mkF m 502 #[vI av, vI bv, vL vv, .second, vR r41, vR r78, vR ex119, vR mm120, vI (Int32.ofNat (List.length ms44)), vI (Int32.ofNat (List.length ms81)), vI (Int32.ofNat pn), vI dn, vI lnv, vI (((48 : Int32) + ((vv - (vv / (10 : Int64)) * (10 : Int64)).toInt32)).toUInt32.toUInt16.toUInt32.toInt32)] [(.int (Int32.ofNat (pn + 25 + (Jvm.Free.SBG.digitsL vv.toInt.toNat)))), .ref mm120])) rfl (by rw [hml]; rfl) (Steps.refl _) (argsL := [(.int (Int32.ofNat (pn + 25 + (Jvm.Free.SBG.digitsL vv.toInt.toNat))))]) (rest := []) (lenOf o_h702 rfl) rfl (o_w0 rfl) (hb hby at_502) (fun _ _ => ⟨rfl, e810, o_l rfl, o_l rfl⟩)
  dsimp only [Pt.U, Pt.locs, Pt.cells, Pt.slots] at X816 l_819 y_820 z_821 st822 hQ818
  subst l_819 y_820 z_821
  obtain ⟨rfl, rfl, e828⟩ := hQ818
  have N829 := Fr.app N811 (Fr.nil n0)
  have k112 : o_J p e below T812 m 505 #[vI av, vI bv, vL vv, .second, vR r41, vR r78, vR ex119, vR mm120, vI (Int32.ofNat (List.length ms44)), vI (Int32.ofNat (List.length ms81)), vI (Int32.ofNat pn), vI dn, vI lnv, vI (((48 : Int32) + ((vv - (vv / (10 : Int64)) * (10 : Int64)).toInt32)).toUInt32.toUInt16.toUInt32.toInt32)] [(.int (ms123.getD (pn + 25 + (Jvm.Free.SBG.digitsL vv.toInt.toNat)) 0))] B_ := fun t_ hh => k111 t_ (st822.trans hh)
  clear k111 st822 X798 e810
  have k113 : o_J p e below T812 m 515 #[vI av, vI bv, vL vv, .second, vR r41, vR r78, vR ex119, vR mm120, vI (Int32.ofNat (List.length ms44)), vI (Int32.ofNat (List.length ms81)), vI (Int32.ofNat pn), vI dn, vI lnv, vI (((48 : Int32) + ((vv - (vv / (10 : Int64)) * (10 : Int64)).toInt32)).toUInt32.toUInt16.toUInt32.toInt32)] [(.int 1)] B_ := fun t_ hh => k112 t_ (by
   refine XS.iload X816.here hx rfl (hb hby at_505) rfl ?_
   refine XS.icmpNo X816.here hx rfl (hb hby at_507) rfl (o_icF_ne (o_cPd F137 epn c411)) ?_
   refine XS.iconst X816.here hx rfl (hb hby at_510) ?_
   refine XS.goto X816.here hx rfl (pc0 := 511) (pc' := 515) rfl (hb hby at_511) (by decide) (by decide) ?_
   exact hh)
  clear k112
  obtain ⟨fs, hr, hrun, hended, hEnd⟩ := X816.leaveW hS114 (by rw [e828]; exact (Nat.le_refl T99.heap.size)) (v := some (.int 1)) (fun h => by rw [Bd.returns] at h; cases h)
  refine ⟨_, _, (o_from hB_ (k113 _ (retN X816 hx (t := .boolean) Bd.returns (by simp) (hb hby at_515) hr))), hrun, hended, _, _, rfl, ?_, hEnd.1, hEnd.2.1, hEnd.2.2.1, hEnd.2.2.2.mono (o_l rfl) (o_l rfl)⟩
  show QL h0 n0 _ T812.heap _
  rw [e828]
  exact ⟨rfl, N829⟩
theorem o_addT {args : Array Value} {first s : State} {o : Option Outcome} {idx : List Nat} {a b : Term} {x y : Int32} (ha : a.eval args first o idx s = some (.int x)) (hb : b.eval args first o idx s = some (.int y)) : (Term.add a b).eval args first o idx s = some (.int (x + y)) := by simp [Term.eval, ha, hb]
theorem o_eqInt {args : Array Value} {s : State} {t : Term} {n : Int32} (h : (Cond.eq t (Term.int n)).value args s none s [] = some true) : t.eval args s none [] s = some (.int n) := by
  obtain ⟨x, y, ex, ey, kx, ky⟩ := cmp_v (Or.inl h)
  have e : y = .int n := (Option.some.inj ((Term.int_eval n).symm.trans ey)).symm
  subst e
  obtain ⟨z, rfl⟩ := ky
  have := gotT (Cond.eq_ints ex (Term.int_eval n)) h
  rw [ex, this]
theorem o_dig1 {args : Array Value} {s : State} {name : String} {F : Term} {val : Int32 → Int32}
    (hl : (Cond.laysStatic "java/lang/Integer" name "[B").before args s = true) (hz : (Cond.initializedFor "java/lang/Integer" name "[B").before args s = true)
    (hx : (Cond.exactly (Term.static "java/lang/Integer" name "[B") "[B").before args s = true) (hn : (Cond.eq (Term.length (Term.static "java/lang/Integer" name "[B")) (Term.int 100)).before args s = true)
    (ha : (Cond.all (Term.static "java/lang/Integer" name "[B") (Cond.eq (Term.elem (Term.static "java/lang/Integer" name "[B") (Term.index 0)) F)).before args s = true) (hb : (Cond.arrayClass FieldType.byte).before args s = true)
    (hF : ∀ j : Int32, ¬ j < 0 → F.eval args s none [j.toNatClampNeg] s = some (.int (val j))) :
    ∃ (c : ClassId) (k : Class) (st d : Addr) (D : Cell), s.vm.findClass "java/lang/Integer" = some c ∧ s.vm.classes[c]? = some k ∧ k.statics = some st ∧ Jvm.Free.SBG.Tbl s name st d D ∧ ∀ r, r < 100 → Jvm.Free.SBG.iAt D r = val (Int32.ofNat r) := by
  have hx' := Cond.before_iff.mp hx
  obtain ⟨d, ed⟩ := exa_v hx'
  have E := Exa.start ed hx'
  have S : Sta s s.heap "java/lang/Integer" name "[B" (.ref d) := Sta.start ed (Or.inl hz)
  obtain ⟨d', D, l1, l2, l3, l4⟩ := Jvm.Lib.length_spec (o_eqInt (Cond.before_iff.mp hn))
  cases ed.symm.trans l1
  obtain ⟨hc, hu, hst, -⟩ := State.arrayAt?_spec l2
  obtain ⟨cB, kB, comp, b1, b2, b3⟩ := Cond.arrayClass_spec hb
  rw [show "[" ++ FieldType.byte.toString = "[B" by decide] at b1
  obtain ⟨cell, kk, e1, e2, e3, e4, -⟩ := E
  cases e1.symm.trans hc
  cases e2.symm.trans b1
  obtain ⟨cI, kI, iI, fI, stI, cellI, g1, g2, g3, g4, g5, g6, -⟩ := Cond.laysStatic_spec hl
  obtain ⟨cf, i, k, f, st, cs, q1, q2, q3, q4, q5, q6, q7⟩ := S
  cases g2.symm.trans q1
  have hsz : D.slots.size = 100 := by
    have z := congrArg Int32.toInt (Value.int.inj l4)
    rw [len_toInt l3, show (100 : Int32).toInt = 100 from rfl] at z
    omega
  have at_ : ∀ r, r < 100 → D.slots[r]? = some (.int (val (Int32.ofNat r))) := fun r hr => by
    have nn : ¬ Int32.ofNat r < 0 := o_nneg (by omega)
    have e := o_natC (n := r) (by omega)
    have u := Cond.all_elim ed l2 (Cond.before_iff.mp ha) r (by omega)
    have v := eqv_i (hF (Int32.ofNat r) nn) (by rw [e]; exact u)
    have w := (elem_f (show (Term.static "java/lang/Integer" name "[B").eval args s none [(Int32.ofNat r).toNatClampNeg] s = some (.ref d) from ed) (idx_at nn) l2 nn).symm.trans v
    rw [e] at w; exact w
  have hi : ∀ r, r < 100 → Jvm.Free.SBG.iAt D r = val (Int32.ofNat r) := fun r hr => by
    simp only [Jvm.Free.SBG.iAt, Array.getD_eq_getD_getElem?, at_ r hr, Option.getD_some]
  exact ⟨cI, kI, st, d, D, g1, State.fieldFound?_class q1, q4, ⟨cI, iI, kI, fI, cs, q1, q2, q3, q4, q5, (fun z => by rw [z] at q6; cases q6), q7, hc, ⟨(fun k z => by rw [z] at hst; cases hst), kB, b2, comp, b3⟩, hu, hsz, fun r hr => by rw [at_ r hr, hi r hr]⟩, hi⟩
theorem o_ones : ∀ r, r < 100 → (48 : Int32) + Int32.ofNat r % (10 : Int32) = Int32.ofNat (48 + r % 10) := by decide +kernel
theorem o_tens : ∀ r, r < 100 → (48 : Int32) + Int32.ofNat r / (10 : Int32) = Int32.ofNat (48 + r / 10) := by decide +kernel

set_option maxRecDepth 65536 in
set_option maxHeartbeats 40000000 in
theorem comes_1 {Post : Tables → Env → Array Value → State → Outcome → State → Prop} (hpost : ∀ tb e args s v u, (limb_1_1.after args s (.returned v) u = true ∧ limb_1_2.after args s (.returned v) u = true ∧ True) → ReturnedEndW s (.returned v) u (Jvm.fieldLocs frame_1_writes args s ++ Jvm.arrayLocs frame_1_arrays args s ++ Jvm.staticLocs frame_1_statics s) 80 15360 → Post tb e args s (.returned v) u) :
    ArmFor flags0 classFile x code maxLocals ret World_1 tables_1 room_1 Calls_1 rest_1 Pre_1 Post := by
  intro l hfl _ _ p e ha hc hk s m args below hf hA hF happ hP
  obtain ⟨hcalls, hrest, hpre⟩ := hP
  obtain ⟨-, -, -, hnamed, -, -, -, hat⟩ := (Spec.applies_iff hf).mp happ
  obtain ⟨hg, hn⟩ := and_e (Cond.before_iff.mp (show (Jvm.Cond.and given_1 narrow_1).before args s = true from hpre))
  obtain ⟨h1, g0⟩ := and_e hg
  obtain ⟨j0, g1⟩ := and_e g0
  obtain ⟨j1, g2⟩ := and_e g1
  have j2 := g2
  obtain ⟨w0, w1, w2, rfl⟩ : ∃ w0 w1 w2 : Value, args = #[w0, w1, w2] := by
    have hs : args.size = 3 := by simpa [Cond.value, given_1] using h1
    obtain ⟨L⟩ := args
    match L, hs with
    | [w0, w1, w2], _ => exact ⟨w0, w1, w2, rfl⟩
  have hw := fun d (hd : d ∈ tables_1) => atoms_spec (ws := Jvm.Cond.code x code maxLocals ret :: tables_1) hat d (List.mem_cons_of_mem _ hd)
  have hfit : Fit s := fun {y c} hc i hi => by
    obtain ⟨ha, rfl⟩ := Array.getElem?_eq_some_iff.mp hc
    have q := List.all_eq_true.mp ((Array.all_eq_true_iff_forall_mem.mp hF) _ (Array.getElem_mem ha)) i (List.mem_range.mpr hi)
    simpa [Array.getElem?_eq_getElem hi] using q
  obtain ⟨i0, q0⟩ := is_v j0
  obtain rfl : w0 = (.int i0) := Option.some.inj q0
  obtain ⟨i1, q1⟩ := is_v j1
  obtain rfl : w1 = (.int i1) := Option.some.inj q1
  obtain ⟨i2, q2⟩ := isL_v j2
  obtain rfl : w2 = (.long i2) := Option.some.inj q2
  obtain ⟨hsets, hown0⟩ := atoms_of _ (rest_1_c_eq ▸ (show rest_1_c.before _ s = true from hrest))
  have n5 := not_v (Cond.before_iff.mp (hsets _ (List.mem_of_getElem? (i := 2) rfl)))
  obtain ⟨ci, eci⟩ := is_v (Cond.before_iff.mp (hsets _ (List.mem_of_getElem? (i := 1) rfl)))
  have sC : Sta s s.heap oS "COMPACT_STRINGS" "Z" (.int ci) := Sta.start eci (Or.inl (hsets _ (List.mem_of_getElem? (i := 0) rfl)))
  have hc0 : ¬ ci = 0 := gotF (Cond.eq_ints eci (Term.int_eval 0)) n5
  obtain ⟨gv, egv, hg⟩ := isR_v (Cond.before_iff.mp (hsets _ (List.mem_of_getElem? (i := 8) rfl)))
  have sG : Sta s s.heap "jdk/internal/util/Preconditions" "SIOOBE_FORMATTER" "Ljava/util/function/BiFunction;" gv := Sta.start egv (Or.inl (hsets _ (List.mem_of_getElem? (i := 7) rfl)))
  obtain ⟨eo, veo⟩ := exa_v (Cond.before_iff.mp (hsets _ (List.mem_of_getElem? (i := 42) rfl)))
  have xE := Exa.start veo (Cond.before_iff.mp (hsets _ (List.mem_of_getElem? (i := 42) rfl)))
  have sE : Sta s s.heap "java/util/OptionalLong" "EMPTY" "Ljava/util/OptionalLong;" (.ref eo) := Sta.start veo (Or.inl (hsets _ (List.mem_of_getElem? (i := 41) rfl)))
  have fE := Fld.start ((fld_at veo).symm.trans (o_eqInt (Cond.before_iff.mp (hsets _ (List.mem_of_getElem? (i := 43) rfl)))))
  obtain ⟨cI1, kI1, st1, d1, D1, u1, v1, x1, T1, i1_⟩ := o_dig1 (val := fun j => (48 : Int32) + j % (10 : Int32)) (hsets _ (List.mem_of_getElem? (i := 10) rfl)) (hsets _ (List.mem_of_getElem? (i := 11) rfl)) (hsets _ (List.mem_of_getElem? (i := 12) rfl)) (hsets _ (List.mem_of_getElem? (i := 13) rfl)) (hsets _ (List.mem_of_getElem? (i := 14) rfl)) (wT hw 19 rfl) (fun j hj => o_addT (Term.int_eval 48) (rem_f (idx_at hj) (Term.int_eval 10) (by decide)))
  obtain ⟨cI2, kI2, st2, d2, D2, u2, v2, x2, T2, i2_⟩ := o_dig1 (val := fun j => (48 : Int32) + j / (10 : Int32)) (hsets _ (List.mem_of_getElem? (i := 15) rfl)) (hsets _ (List.mem_of_getElem? (i := 16) rfl)) (hsets _ (List.mem_of_getElem? (i := 17) rfl)) (hsets _ (List.mem_of_getElem? (i := 18) rfl)) (hsets _ (List.mem_of_getElem? (i := 19) rfl)) (wT hw 19 rfl) (fun j hj => o_addT (Term.int_eval 48) (div_f (idx_at hj) (Term.int_eval 10) (by decide)))
  cases u1.symm.trans u2
  cases v1.symm.trans v2
  cases x1.symm.trans x2
  have hdg : o_Dig s := ⟨_, _, _, _, _, T1, T2, fun r hr => (i1_ r hr).trans (o_ones r hr), fun r hr => (i2_ r hr).trans (o_tens r hr)⟩
  have hst : l.stackTraces = true := by
      show (!l.flags.contains Jvm.noTraceFlag) = true
      rw [hfl]; decide +kernel
  have hr2 := (List.forall_mem_cons.mpr ⟨(hsets _ (List.mem_of_getElem? (i := 27) rfl)), List.forall_mem_cons.mpr ⟨(hsets _ (List.mem_of_getElem? (i := 32) rfl)), fun _ q => nomatch q⟩⟩ : ∀ d ∈ twoRefs, d.before _ s = true)
  have hCH : CHv s o_EL s.vm s.heap := CHv.start (o_EW hw) (fun p hp => hcalls.2.2.1 p hp) (hsets _ (List.mem_of_getElem? (i := 2) rfl)) (wT hw 19 rfl) (wT hw 5 rfl)
  obtain ⟨n, o, h1, h2, h3, _, L, rfl, ⟨rfl, N⟩, hq⟩ := rmL l s _ hw tables_1 i0 i1 i2 s.heap s.heap.size (Nat.le_refl _) (Old.start s) ci sC hc0 gv sG hg eo sE hdg xE fE hst hr2 p e ha hc hk s m _ below hf ((Spec.applies_iff_loose hf).mp happ).1 ⟨rfl, State.Warmed39.refl s, rfl, hCH⟩ ⟨MethodsKnown_of_tablesKnown hcalls.2.1, FramesKnown_of_framesKnown hcalls.1 hf⟩
  refine ⟨n, _, h1, h2, h3, hpost _ _ _ _ _ _ ⟨Cond.after_iff.mpr rfl, Cond.after_iff.mpr (eq_i res_at (Term.int_eval (1)) rfl), trivial⟩ ⟨hq.1, hq.2.1, hq.2.2.1, (hq.2.2.2.sift fun y hy => Or.inr (N y hy)).mono (by decide) (by decide)⟩⟩
theorem main_1_1 : Claimed_1_1 := comes_1 fun _ _ _ _ _ _ h hF => ⟨h.1, hF⟩
theorem main_1_2 : Claimed_1_2 := comes_1 fun _ _ _ _ _ _ h hF => ⟨h.2.1, hF⟩
end Jvm.Pilot.@@N@@
namespace Jvm.Pilot.@@N@@
open Jvm Jvm.ClassFile Sem Op Lib Jvm.Free Jvm.Stand Jvm.Pilot.@@N@@.Jvm.D
/-! MADE BY PROGRAM (witnessworld.py) out of the Statement's table words and the real class files: 48 classes; the members and pool entries that the words name. The judged class is class 1, her method 1. -/
namespace start1
open Jvm.ClassFile
def u (s : String) : CpInfo := .utf8 (stringToUtf16 s)
/-- a pool by its gaps: so many unusable entries, then the entry; so many at the end -/
def gap : Nat → List CpInfo → List CpInfo
  | 0, r => r
  | n + 1, r => .unusable :: gap n r
def poolList (es : List (Nat × CpInfo)) (last : Nat) : List CpInfo := es.foldr (fun e r => gap e.1 (e.2 :: r)) (gap last [])
def pool (es : List (Nat × CpInfo)) (last : Nat) : Array CpInfo := ⟨poolList es last⟩
def fileOf (pool : Array CpInfo) (this : Nat) (attrs : Array Attribute := #[]) (ms : Array MethodInfo := #[]) (fl : Nat := 33) (sup : Nat := 0) (ifs : Array Nat := #[]) (fds : Array FieldInfo := #[]) : ClassFile where
  minorVersion := 0
  majorVersion := 65
  constantPool := pool
  accessFlags := fl
  thisClass := this
  superClass := sup
  interfaces := ifs
  fields := fds
  methods := ms
  attributes := attrs
def plain (name : String) (sup : Option ClassId) : Class where
  name := name
  kind := .ordinary
  loader := none
  accessFlags := 33
  super := sup
  interfaces := #[]
  cf := none
  fields := #[]
  methods := #[]
  instanceTypes := #[]
  staticTypes := #[]
  resolved := #[]
  callSites := []
  init := .initialized
  statics := none
  mirror := none

def pool0 : Array CpInfo := pool [(5, u "<init>"), (0, u "()V"), (1, .class_ 10), (1, u "java/lang/Object"), (85, u "clone"), (0, u "()Ljava/lang/Object;")] 26

def k0c0 : Code := { maxStack := 0, maxLocals := 1, code := object_method_1_code, exceptionTable := #[], attributes := #[] }
def k0m0 : Method := { name := "<init>", desc := "()V", sig := { parameters := [], returnType := none }, accessFlags := 1, code := some k0c0 }
def k0m1 : Method := { name := "clone", desc := "()Ljava/lang/Object;", sig := { parameters := [], returnType := some (.object "java/lang/Object") }, accessFlags := 260, code := none }
/-- java/lang/Object -/
def k0 : Class := { plain "java/lang/Object" none with
  accessFlags := 33
  interfaces := #[]
  cf := some (fileOf pool0 8 #[] #[{ accessFlags := 1, nameIndex := 5, descriptorIndex := 6, attributes := #[] }, { accessFlags := 260, nameIndex := 96, descriptorIndex := 97, attributes := #[] }] 33 0 #[] #[])
  fields := #[]
  methods := #[k0m0, k0m1]
  instanceTypes := #[]
  staticTypes := #[]
  resolved := Array.replicate 124 none
  statics := none }

def pool1 : Array CpInfo := pool [(2, .class_ 4), (1, u "java/lang/Object"), (0, u "<init>"), (0, u "()V"), (0, .methodref 8 9), (0, .class_ 10), (0, .nameAndType 11 12), (0, u "com/example/aggregate_lock/aggregatelock/outcome/VersionConflictExceptionNeverCreatedPinLaw"), (0, u "mk"), (0, u "(I)Ljava/lang/String;"), (0, .methodref 14 15), (0, .class_ 16), (0, .nameAndType 17 18), (0, u "com/example/aggregate_lock/aggregatelock/outcome/VersionConflictException"), (0, u "neverCreated"), (0, u "(Ljava/lang/String;Ljava/lang/String;J)Lcom/example/aggregate_lock/aggregatelock/outcome/VersionConflictException;"), (0, .methodref 14 20), (0, .nameAndType 21 22), (0, u "type"), (0, u "()Ljava/lang/String;"), (0, .methodref 24 25), (0, .class_ 26), (0, .nameAndType 27 28), (0, u "java/lang/String"), (0, u "equals"), (0, u "(Ljava/lang/Object;)Z"), (0, .methodref 14 30), (0, .nameAndType 31 22), (0, u "id"), (0, .methodref 14 33), (0, .nameAndType 34 35), (0, u "expectedVersion"), (0, u "()J"), (0, .methodref 14 37), (0, .nameAndType 38 39), (0, u "currentVersion"), (0, u "()Ljava/util/OptionalLong;"), (0, .methodref 41 42), (0, .class_ 43), (0, .nameAndType 44 45), (0, u "java/util/OptionalLong"), (0, u "isPresent"), (0, u "()Z"), (0, .methodref 14 47), (0, .nameAndType 48 22), (0, u "changedBy"), (0, .methodref 14 50), (0, .nameAndType 51 52), (0, u "changedAt"), (0, u "()Ljava/time/Instant;"), (0, .methodref 14 54), (0, .nameAndType 55 45), (0, u "deleted"), (0, .methodref 14 57), (0, .nameAndType 58 22), (0, u "getMessage"), (0, .methodref 24 60), (0, .nameAndType 61 62), (0, u "length"), (0, u "()I"), (0, .methodref 8 64), (0, .nameAndType 65 66), (0, u "digits"), (0, u "(J)I"), (0, .methodref 24 68), (0, .nameAndType 69 70), (0, u "charAt"), (0, u "(I)C"), (0, .long 10), (1, .methodref 24 74), (0, .nameAndType 5 75), (0, u "([C)V"), (0, .long 100), (1, .long 1000), (1, .long 10000), (1, .long 100000), (1, .long 1000000), (1, .long 10000000), (1, .long 100000000), (1, .long 1000000000), (1, .long 10000000000), (1, .long 100000000000), (1, .long 1000000000000), (1, .long 10000000000000), (1, .long 100000000000000), (1, .long 1000000000000000), (1, .long 10000000000000000), (1, .long 100000000000000000), (1, .long 1000000000000000000), (3, u "law"), (0, u "(IIJ)Z")] 3

def k1m0 : Method := { name := "<init>", desc := "()V", sig := { parameters := [], returnType := none }, accessFlags := 1, code := none }
def k1c1 : Code := { maxStack := 5, maxLocals := 14, code := code, exceptionTable := #[], attributes := #[] }
def k1m1 : Method := { name := "law", desc := "(IIJ)Z", sig := { parameters := [.int, .int, .long], returnType := some .boolean }, accessFlags := 9, code := some k1c1 }
def k1c2 : Code := { maxStack := 6, maxLocals := 4, code := method_3_code, exceptionTable := #[], attributes := #[] }
def k1m2 : Method := { name := "mk", desc := "(I)Ljava/lang/String;", sig := { parameters := [.int], returnType := some (.object "java/lang/String") }, accessFlags := 10, code := some k1c2 }
def k1c3 : Code := { maxStack := 4, maxLocals := 3, code := method_4_code, exceptionTable := #[], attributes := #[] }
def k1m3 : Method := { name := "digits", desc := "(J)I", sig := { parameters := [.long], returnType := some .int }, accessFlags := 10, code := some k1c3 }
/-- com/example/aggregate_lock/aggregatelock/outcome/VersionConflictExceptionNeverCreatedPinLaw -/
def k1 : Class := { plain "com/example/aggregate_lock/aggregatelock/outcome/VersionConflictExceptionNeverCreatedPinLaw" (some 0) with
  accessFlags := 49
  interfaces := #[]
  cf := some (fileOf pool1 8 #[] #[{ accessFlags := 1, nameIndex := 5, descriptorIndex := 6, attributes := #[] }, { accessFlags := 9, nameIndex := 112, descriptorIndex := 113, attributes := #[] }, { accessFlags := 10, nameIndex := 11, descriptorIndex := 12, attributes := #[] }, { accessFlags := 10, nameIndex := 65, descriptorIndex := 66, attributes := #[] }] 49 2 #[] #[])
  fields := #[]
  methods := #[k1m0, k1m1, k1m2, k1m3]
  instanceTypes := #[]
  staticTypes := #[]
  resolved := Array.replicate 117 none
  statics := none }

def pool2 : Array CpInfo := pool [(1, .class_ 2), (0, u "java/io/Serializable"), (0, .class_ 4), (0, u "java/lang/Object")] 2

/-- java/io/Serializable -/
def k2 : Class := { plain "java/io/Serializable" (some 0) with
  accessFlags := 1537
  interfaces := #[]
  cf := some (fileOf pool2 1 #[] #[] 1537 3 #[] #[])
  fields := #[]
  methods := #[]
  instanceTypes := #[]
  staticTypes := #[]
  resolved := Array.replicate 7 none
  statics := none }

def pool3 : Array CpInfo := pool [(1, .class_ 2), (0, u "java/lang/Comparable"), (0, .class_ 4), (0, u "java/lang/Object")] 7

/-- java/lang/Comparable -/
def k3 : Class := { plain "java/lang/Comparable" (some 0) with
  accessFlags := 1537
  interfaces := #[]
  cf := some (fileOf pool3 1 #[] #[] 1537 3 #[] #[])
  fields := #[]
  methods := #[]
  instanceTypes := #[]
  staticTypes := #[]
  resolved := Array.replicate 12 none
  statics := none }

def pool4 : Array CpInfo := pool [(2, .class_ 4), (1, u "java/lang/CharSequence"), (42, .class_ 48), (0, u "java/lang/CharSequence$1CodePointIterator"), (10, .class_ 60), (0, u "java/lang/CharSequence$1CharIterator"), (5, .class_ 67), (0, u "java/lang/Object")] 63

/-- java/lang/CharSequence -/
def k4 : Class := { plain "java/lang/CharSequence" (some 0) with
  accessFlags := 1537
  interfaces := #[]
  cf := some (fileOf pool4 2 #[.nestMembers #[47, 59]] #[] 1537 66 #[] #[])
  fields := #[]
  methods := #[]
  instanceTypes := #[]
  staticTypes := #[]
  resolved := Array.replicate 131 none
  statics := none }

def pool5 : Array CpInfo := pool [(1, .class_ 2), (0, u "java/lang/constant/Constable"), (0, .class_ 4), (0, u "java/lang/Object")] 6

/-- java/lang/constant/Constable -/
def k5 : Class := { plain "java/lang/constant/Constable" (some 0) with
  accessFlags := 1537
  interfaces := #[]
  cf := some (fileOf pool5 1 #[] #[] 1537 3 #[] #[])
  fields := #[]
  methods := #[]
  instanceTypes := #[]
  staticTypes := #[]
  resolved := Array.replicate 11 none
  statics := none }

def pool6 : Array CpInfo := pool [(1, .class_ 2), (0, u "java/lang/constant/ConstantDesc"), (0, .class_ 4), (0, u "java/lang/Object")] 32

/-- java/lang/constant/ConstantDesc -/
def k6 : Class := { plain "java/lang/constant/ConstantDesc" (some 0) with
  accessFlags := 1537
  interfaces := #[]
  cf := some (fileOf pool6 1 #[] #[] 1537 3 #[] #[])
  fields := #[]
  methods := #[]
  instanceTypes := #[]
  staticTypes := #[]
  resolved := Array.replicate 37 none
  statics := none }

def pool7 : Array CpInfo := pool [(1, .methodref 2 3), (0, .class_ 4), (0, .nameAndType 5 6), (0, u "java/lang/Object"), (0, u "<init>"), (0, u "()V"), (0, .string 8), (0, u ""), (0, .fieldref 10 11), (0, .class_ 12), (0, .nameAndType 13 14), (0, u "java/lang/String"), (0, u "value"), (0, u "[B"), (0, .fieldref 10 16), (0, .nameAndType 17 18), (0, u "coder"), (0, u "B"), (2, u "hash"), (0, u "I"), (2, u "hashIsZero"), (0, u "Z"), (0, .methodref 10 28), (0, .nameAndType 5 29), (0, u "([CIILjava/lang/Void;)V"), (8, .fieldref 10 39), (0, .nameAndType 40 26), (0, u "COMPACT_STRINGS"), (1, .class_ 44), (1, u "java/lang/StringUTF16"), (0, u "compress"), (1, .methodref 42 48), (0, .nameAndType 49 50), (0, u "coderFromArrayLen"), (0, u "([BI)B"), (3, .methodref 55 56), (0, .class_ 57), (0, .nameAndType 58 59), (0, u "java/util/Arrays"), (0, u "copyOfRange"), (0, u "([BII)[B"), (47, .class_ 109), (1, u "java/lang/StringLatin1"), (32, u "()Z"), (34, .methodref 42 178), (0, .nameAndType 45 179), (0, u "([CII)[B"), (13, .class_ 195), (1, u "java/lang/System"), (16, .methodref 193 213), (0, .nameAndType 214 215), (0, u "arraycopy"), (0, u "(Ljava/lang/Object;ILjava/lang/Object;II)V"), (118, u "()I"), (0, .methodref 10 336), (0, .nameAndType 17 337), (0, u "()B"), (2, u "()[B"), (22, u "([BI)C"), (27, u "(II)V"), (35, u "(I)C"), (61, .methodref 10 490), (0, .nameAndType 5 491), (0, u "(Ljava/lang/AbstractStringBuilder;Ljava/lang/Void;)V"), (0, .methodref 10 493), (0, .nameAndType 494 142), (0, u "isLatin1"), (0, .methodref 107 496), (0, .nameAndType 497 363), (0, u "charAt"), (3, u "checkIndex"), (4, .nameAndType 507 334), (0, u "length"), (24, u "getBytes"), (10, u "equals"), (5, .methodref 550 506), (0, .class_ 551), (0, u "java/lang/AbstractStringBuilder"), (0, .methodref 550 553), (0, .nameAndType 554 340), (0, u "getValue"), (18, u "(Ljava/lang/Object;)Z"), (1, .class_ 576), (0, u "java/lang/CharSequence"), (22, u "CASE_INSENSITIVE_ORDER"), (0, u "Ljava/util/Comparator;"), (220, u "([BIB)V"), (188, u "([C)V"), (36, .methodref 550 493), (5, .fieldref 1054 1055), (0, .class_ 1056), (0, .nameAndType 1057 1058), (0, u "jdk/internal/util/Preconditions"), (0, u "SIOOBE_FORMATTER"), (0, u "Ljava/util/function/BiFunction;"), (0, .methodref 1054 1060), (0, .nameAndType 501 1061), (0, u "(IILjava/util/function/BiFunction;)I"), (39, u "serialPersistentFields"), (0, u "[Ljava/io/ObjectStreamField;"), (0, .class_ 1104), (0, u "java/lang/String$CaseInsensitiveComparator"), (1, .class_ 1107), (0, u "java/io/Serializable"), (0, .class_ 1109), (0, u "java/lang/Comparable"), (0, .class_ 1111), (0, u "java/lang/constant/Constable"), (0, .class_ 1113), (0, u "java/lang/constant/ConstantDesc"), (2, u "serialVersionUID"), (0, u "J"), (3, u "REPL"), (0, u "C"), (2, u "LATIN1"), (1, u "UTF16"), (105, u "(Ljava/lang/StringBuilder;)V")] 217

def k7m0 : Method := { name := "<init>", desc := "()V", sig := { parameters := [], returnType := none }, accessFlags := 1, code := none }
def k7c1 : Code := { maxStack := 5, maxLocals := 2, code := jdk_42_method_3_code, exceptionTable := #[], attributes := #[] }
def k7m1 : Method := { name := "<init>", desc := "([C)V", sig := { parameters := [(.array .char)], returnType := none }, accessFlags := 1, code := some k7c1 }
def k7c2 : Code := { maxStack := 3, maxLocals := 2, code := jdk_42_method_53_code, exceptionTable := #[], attributes := #[] }
def k7m2 : Method := { name := "<init>", desc := "(Ljava/lang/StringBuilder;)V", sig := { parameters := [(.object "java/lang/StringBuilder")], returnType := none }, accessFlags := 1, code := some k7c2 }
def k7c3 : Code := { maxStack := 2, maxLocals := 1, code := jdk_42_method_54_code, exceptionTable := #[], attributes := #[] }
def k7m3 : Method := { name := "length", desc := "()I", sig := { parameters := [], returnType := some .int }, accessFlags := 1, code := some k7c3 }
def k7c4 : Code := { maxStack := 2, maxLocals := 2, code := jdk_42_method_56_code, exceptionTable := #[], attributes := #[] }
def k7m4 : Method := { name := "charAt", desc := "(I)C", sig := { parameters := [.int], returnType := some .char }, accessFlags := 1, code := some k7c4 }
def k7c5 : Code := { maxStack := 2, maxLocals := 3, code := jdk_42_method_66_code, exceptionTable := #[], attributes := #[] }
def k7m5 : Method := { name := "equals", desc := "(Ljava/lang/Object;)Z", sig := { parameters := [(.object "java/lang/Object")], returnType := some .boolean }, accessFlags := 1, code := some k7c5 }
def k7c6 : Code := { maxStack := 5, maxLocals := 4, code := jdk_42_method_147_code, exceptionTable := #[], attributes := #[] }
def k7m6 : Method := { name := "getBytes", desc := "([BIB)V", sig := { parameters := [(.array .byte), .int, .byte], returnType := none }, accessFlags := 0, code := some k7c6 }
def k7c7 : Code := { maxStack := 4, maxLocals := 6, code := jdk_42_method_149_code, exceptionTable := #[], attributes := #[] }
def k7m7 : Method := { name := "<init>", desc := "([CIILjava/lang/Void;)V", sig := { parameters := [(.array .char), .int, .int, (.object "java/lang/Void")], returnType := none }, accessFlags := 2, code := some k7c7 }
def k7c8 : Code := { maxStack := 5, maxLocals := 5, code := jdk_42_method_150_code, exceptionTable := #[], attributes := #[] }
def k7m8 : Method := { name := "<init>", desc := "(Ljava/lang/AbstractStringBuilder;Ljava/lang/Void;)V", sig := { parameters := [(.object "java/lang/AbstractStringBuilder"), (.object "java/lang/Void")], returnType := none }, accessFlags := 0, code := some k7c8 }
def k7c9 : Code := { maxStack := 1, maxLocals := 1, code := jdk_42_method_152_code, exceptionTable := #[], attributes := #[] }
def k7m9 : Method := { name := "coder", desc := "()B", sig := { parameters := [], returnType := some .byte }, accessFlags := 0, code := some k7c9 }
def k7c10 : Code := { maxStack := 1, maxLocals := 1, code := jdk_42_method_154_code, exceptionTable := #[], attributes := #[] }
def k7m10 : Method := { name := "isLatin1", desc := "()Z", sig := { parameters := [], returnType := some .boolean }, accessFlags := 0, code := some k7c10 }
def k7c11 : Code := { maxStack := 3, maxLocals := 2, code := jdk_42_method_155_code, exceptionTable := #[], attributes := #[] }
def k7m11 : Method := { name := "checkIndex", desc := "(II)V", sig := { parameters := [.int, .int], returnType := none }, accessFlags := 8, code := some k7c11 }
/-- java/lang/String -/
def k7 : Class := { plain "java/lang/String" (some 0) with
  accessFlags := 49
  interfaces := #[2, 3, 4, 5, 6]
  cf := some (fileOf pool7 10 #[.nestMembers #[1103]] #[{ accessFlags := 1, nameIndex := 5, descriptorIndex := 6, attributes := #[] }, { accessFlags := 1, nameIndex := 5, descriptorIndex := 1010, attributes := #[] }, { accessFlags := 1, nameIndex := 5, descriptorIndex := 1233, attributes := #[] }, { accessFlags := 1, nameIndex := 507, descriptorIndex := 334, attributes := #[] }, { accessFlags := 1, nameIndex := 497, descriptorIndex := 427, attributes := #[] }, { accessFlags := 1, nameIndex := 543, descriptorIndex := 573, attributes := #[] }, { accessFlags := 0, nameIndex := 532, descriptorIndex := 821, attributes := #[] }, { accessFlags := 2, nameIndex := 5, descriptorIndex := 29, attributes := #[] }, { accessFlags := 0, nameIndex := 5, descriptorIndex := 491, attributes := #[] }, { accessFlags := 0, nameIndex := 17, descriptorIndex := 337, attributes := #[] }, { accessFlags := 0, nameIndex := 494, descriptorIndex := 142, attributes := #[] }, { accessFlags := 8, nameIndex := 501, descriptorIndex := 391, attributes := #[] }] 49 2 #[1106, 1108, 575, 1110, 1112] #[{ accessFlags := 18, nameIndex := 13, descriptorIndex := 14, attributes := #[] }, { accessFlags := 18, nameIndex := 17, descriptorIndex := 18, attributes := #[] }, { accessFlags := 2, nameIndex := 21, descriptorIndex := 22, attributes := #[] }, { accessFlags := 2, nameIndex := 25, descriptorIndex := 26, attributes := #[] }, { accessFlags := 26, nameIndex := 1116, descriptorIndex := 1117, attributes := #[] }, { accessFlags := 24, nameIndex := 40, descriptorIndex := 26, attributes := #[] }, { accessFlags := 26, nameIndex := 1101, descriptorIndex := 1102, attributes := #[] }, { accessFlags := 26, nameIndex := 1121, descriptorIndex := 1122, attributes := #[] }, { accessFlags := 25, nameIndex := 599, descriptorIndex := 600, attributes := #[] }, { accessFlags := 24, nameIndex := 1125, descriptorIndex := 18, attributes := #[] }, { accessFlags := 24, nameIndex := 1127, descriptorIndex := 18, attributes := #[] }])
  fields := #[{ name := "value", type := (.array .byte), accessFlags := 18, slot := 0, constantValue := 0 }, { name := "coder", type := .byte, accessFlags := 18, slot := 1, constantValue := 0 }, { name := "hash", type := .int, accessFlags := 2, slot := 2, constantValue := 0 }, { name := "hashIsZero", type := .boolean, accessFlags := 2, slot := 3, constantValue := 0 }, { name := "serialVersionUID", type := .long, accessFlags := 26, slot := 0, constantValue := 0 }, { name := "COMPACT_STRINGS", type := .boolean, accessFlags := 24, slot := 1, constantValue := 0 }, { name := "serialPersistentFields", type := (.array (.object "java/io/ObjectStreamField")), accessFlags := 26, slot := 2, constantValue := 0 }, { name := "REPL", type := .char, accessFlags := 26, slot := 3, constantValue := 0 }, { name := "CASE_INSENSITIVE_ORDER", type := (.object "java/util/Comparator"), accessFlags := 25, slot := 4, constantValue := 0 }, { name := "LATIN1", type := .byte, accessFlags := 24, slot := 5, constantValue := 0 }, { name := "UTF16", type := .byte, accessFlags := 24, slot := 6, constantValue := 0 }]
  methods := #[k7m0, k7m1, k7m2, k7m3, k7m4, k7m5, k7m6, k7m7, k7m8, k7m9, k7m10, k7m11]
  instanceTypes := #[(.array .byte), .byte, .int, .boolean]
  staticTypes := #[.long, .boolean, (.array (.object "java/io/ObjectStreamField")), .char, (.object "java/util/Comparator"), .byte, .byte]
  resolved := Array.replicate 1451 none
  statics := some 0 }

def pool8 : Array CpInfo := pool [(1, .methodref 2 3), (0, .class_ 4), (0, .nameAndType 5 6), (0, u "java/lang/Object"), (0, u "<init>"), (0, u "()V"), (0, .fieldref 8 9), (0, .class_ 10), (0, .nameAndType 11 12), (0, u "java/lang/Throwable"), (0, u "cause"), (0, u "Ljava/lang/Throwable;"), (0, .fieldref 8 14), (0, .nameAndType 15 16), (0, u "UNASSIGNED_STACK"), (0, u "[Ljava/lang/StackTraceElement;"), (0, .fieldref 8 18), (0, .nameAndType 19 16), (0, u "stackTrace"), (0, .fieldref 8 21), (0, .nameAndType 22 23), (0, u "SUPPRESSED_SENTINEL"), (0, u "Ljava/util/List;"), (0, .fieldref 8 25), (0, .nameAndType 26 23), (0, u "suppressedExceptions"), (0, .methodref 8 28), (0, .nameAndType 29 30), (0, u "fillInStackTrace"), (0, u "()Ljava/lang/Throwable;"), (0, .fieldref 8 32), (0, .nameAndType 33 34), (0, u "detailMessage"), (0, u "Ljava/lang/String;"), (3, u "()Ljava/lang/String;"), (2, u "getMessage"), (51, .class_ 94), (0, u "java/lang/Throwable$WrappedPrintStream"), (6, .class_ 103), (1, u "java/lang/Throwable$PrintStreamOrWriter"), (61, u "$assertionsDisabled"), (0, u "Z"), (26, .class_ 194), (0, u "java/lang/Throwable$WrappedPrintWriter"), (3, .fieldref 8 199), (0, .nameAndType 200 201), (0, u "backtrace"), (0, u "Ljava/lang/Object;"), (0, .methodref 8 203), (0, .nameAndType 29 204), (0, u "(I)Ljava/lang/Throwable;"), (6, u "depth"), (0, u "I"), (10, u "(Ljava/lang/String;)V"), (45, .class_ 271), (1, u "java/lang/Throwable$SentinelHolder"), (32, u "EMPTY_THROWABLE_ARRAY"), (0, u "[Ljava/lang/Throwable;"), (12, .class_ 319), (0, u "java/io/Serializable"), (0, u "serialVersionUID"), (0, u "J"), (5, u "NULL_CAUSE_MESSAGE"), (0, u "SELF_SUPPRESSION_MESSAGE"), (0, u "CAUSE_CAPTION"), (0, u "SUPPRESSED_CAPTION")] 73

def k8c0 : Code := { maxStack := 2, maxLocals := 1, code := jdk_78_method_1_code, exceptionTable := #[], attributes := #[] }
def k8m0 : Method := { name := "<init>", desc := "()V", sig := { parameters := [], returnType := none }, accessFlags := 1, code := some k8c0 }
def k8c1 : Code := { maxStack := 2, maxLocals := 2, code := jdk_78_method_2_code, exceptionTable := #[], attributes := #[] }
def k8m1 : Method := { name := "<init>", desc := "(Ljava/lang/String;)V", sig := { parameters := [(.object "java/lang/String")], returnType := none }, accessFlags := 1, code := some k8c1 }
def k8c2 : Code := { maxStack := 1, maxLocals := 1, code := jdk_78_method_6_code, exceptionTable := #[], attributes := #[] }
def k8m2 : Method := { name := "getMessage", desc := "()Ljava/lang/String;", sig := { parameters := [], returnType := some (.object "java/lang/String") }, accessFlags := 1, code := some k8c2 }
def k8c3 : Code := { maxStack := 2, maxLocals := 1, code := ⟨#[0x2a, 0xb4, 0x00, 0x11, 0xc7, 0x00, 0x0a, 0x2a, 0xb4, 0x00, 0xc6, 0xc6, 0x00, 0x10, 0x2a, 0x03, 0xb6, 0x00, 0xca, 0x57, 0x2a, 0xb2, 0x00, 0x0d, 0xb5, 0x00, 0x11, 0x2a, 0xb0]⟩, exceptionTable := #[], attributes := #[] }
def k8m3 : Method := { name := "fillInStackTrace", desc := "()Ljava/lang/Throwable;", sig := { parameters := [], returnType := some (.object "java/lang/Throwable") }, accessFlags := 33, code := some k8c3 }
def k8m4 : Method := { name := "fillInStackTrace", desc := "(I)Ljava/lang/Throwable;", sig := { parameters := [.int], returnType := some (.object "java/lang/Throwable") }, accessFlags := 258, code := none }
/-- java/lang/Throwable -/
def k8 : Class := { plain "java/lang/Throwable" (some 0) with
  accessFlags := 33
  interfaces := #[2]
  cf := some (fileOf pool8 8 #[.nestMembers #[193, 93, 101, 269]] #[{ accessFlags := 1, nameIndex := 5, descriptorIndex := 6, attributes := #[] }, { accessFlags := 1, nameIndex := 5, descriptorIndex := 223, attributes := #[] }, { accessFlags := 1, nameIndex := 41, descriptorIndex := 38, attributes := #[] }, { accessFlags := 33, nameIndex := 29, descriptorIndex := 30, attributes := #[] }, { accessFlags := 258, nameIndex := 29, descriptorIndex := 204, attributes := #[] }] 33 2 #[318] #[{ accessFlags := 26, nameIndex := 320, descriptorIndex := 321, attributes := #[] }, { accessFlags := 130, nameIndex := 200, descriptorIndex := 201, attributes := #[] }, { accessFlags := 2, nameIndex := 33, descriptorIndex := 34, attributes := #[] }, { accessFlags := 26, nameIndex := 15, descriptorIndex := 16, attributes := #[] }, { accessFlags := 2, nameIndex := 11, descriptorIndex := 12, attributes := #[] }, { accessFlags := 2, nameIndex := 19, descriptorIndex := 16, attributes := #[] }, { accessFlags := 130, nameIndex := 211, descriptorIndex := 212, attributes := #[] }, { accessFlags := 26, nameIndex := 22, descriptorIndex := 23, attributes := #[] }, { accessFlags := 2, nameIndex := 26, descriptorIndex := 23, attributes := #[] }, { accessFlags := 26, nameIndex := 327, descriptorIndex := 34, attributes := #[] }, { accessFlags := 26, nameIndex := 328, descriptorIndex := 34, attributes := #[] }, { accessFlags := 26, nameIndex := 329, descriptorIndex := 34, attributes := #[] }, { accessFlags := 26, nameIndex := 330, descriptorIndex := 34, attributes := #[] }, { accessFlags := 26, nameIndex := 304, descriptorIndex := 305, attributes := #[] }, { accessFlags := 4120, nameIndex := 165, descriptorIndex := 166, attributes := #[] }])
  fields := #[{ name := "serialVersionUID", type := .long, accessFlags := 26, slot := 0, constantValue := 0 }, { name := "backtrace", type := (.object "java/lang/Object"), accessFlags := 130, slot := 0, constantValue := 0 }, { name := "detailMessage", type := (.object "java/lang/String"), accessFlags := 2, slot := 1, constantValue := 0 }, { name := "UNASSIGNED_STACK", type := (.array (.object "java/lang/StackTraceElement")), accessFlags := 26, slot := 1, constantValue := 0 }, { name := "cause", type := (.object "java/lang/Throwable"), accessFlags := 2, slot := 2, constantValue := 0 }, { name := "stackTrace", type := (.array (.object "java/lang/StackTraceElement")), accessFlags := 2, slot := 3, constantValue := 0 }, { name := "depth", type := .int, accessFlags := 130, slot := 4, constantValue := 0 }, { name := "SUPPRESSED_SENTINEL", type := (.object "java/util/List"), accessFlags := 26, slot := 2, constantValue := 0 }, { name := "suppressedExceptions", type := (.object "java/util/List"), accessFlags := 2, slot := 5, constantValue := 0 }, { name := "NULL_CAUSE_MESSAGE", type := (.object "java/lang/String"), accessFlags := 26, slot := 3, constantValue := 0 }, { name := "SELF_SUPPRESSION_MESSAGE", type := (.object "java/lang/String"), accessFlags := 26, slot := 4, constantValue := 0 }, { name := "CAUSE_CAPTION", type := (.object "java/lang/String"), accessFlags := 26, slot := 5, constantValue := 0 }, { name := "SUPPRESSED_CAPTION", type := (.object "java/lang/String"), accessFlags := 26, slot := 6, constantValue := 0 }, { name := "EMPTY_THROWABLE_ARRAY", type := (.array (.object "java/lang/Throwable")), accessFlags := 26, slot := 7, constantValue := 0 }, { name := "$assertionsDisabled", type := .boolean, accessFlags := 4120, slot := 8, constantValue := 0 }]
  methods := #[k8m0, k8m1, k8m2, k8m3, k8m4]
  instanceTypes := #[(.object "java/lang/Object"), (.object "java/lang/String"), (.object "java/lang/Throwable"), (.array (.object "java/lang/StackTraceElement")), .int, (.object "java/util/List")]
  staticTypes := #[.long, (.array (.object "java/lang/StackTraceElement")), (.object "java/util/List"), (.object "java/lang/String"), (.object "java/lang/String"), (.object "java/lang/String"), (.object "java/lang/String"), (.array (.object "java/lang/Throwable")), .boolean]
  resolved := Array.replicate 404 none
  statics := some 1 }

def pool9 : Array CpInfo := pool [(2, .class_ 4), (1, u "java/lang/Throwable"), (0, u "<init>"), (0, u "()V"), (0, .methodref 2 8), (0, .nameAndType 5 9), (0, u "(Ljava/lang/String;)V"), (9, .class_ 20), (0, u "java/lang/Exception"), (0, u "serialVersionUID"), (0, u "J")] 17

def k9m0 : Method := { name := "<init>", desc := "()V", sig := { parameters := [], returnType := none }, accessFlags := 1, code := none }
def k9c1 : Code := { maxStack := 2, maxLocals := 2, code := jdk_59_method_2_code, exceptionTable := #[], attributes := #[] }
def k9m1 : Method := { name := "<init>", desc := "(Ljava/lang/String;)V", sig := { parameters := [(.object "java/lang/String")], returnType := none }, accessFlags := 1, code := some k9c1 }
/-- java/lang/Exception -/
def k9 : Class := { plain "java/lang/Exception" (some 8) with
  accessFlags := 33
  interfaces := #[]
  cf := some (fileOf pool9 19 #[] #[{ accessFlags := 1, nameIndex := 5, descriptorIndex := 6, attributes := #[] }, { accessFlags := 1, nameIndex := 5, descriptorIndex := 9, attributes := #[] }] 33 2 #[] #[{ accessFlags := 24, nameIndex := 21, descriptorIndex := 22, attributes := #[] }])
  fields := #[{ name := "serialVersionUID", type := .long, accessFlags := 24, slot := 0, constantValue := 0 }]
  methods := #[k9m0, k9m1]
  instanceTypes := #[(.object "java/lang/Object"), (.object "java/lang/String"), (.object "java/lang/Throwable"), (.array (.object "java/lang/StackTraceElement")), .int, (.object "java/util/List")]
  staticTypes := #[.long]
  resolved := Array.replicate 40 none
  statics := none }

def pool10 : Array CpInfo := pool [(2, .class_ 4), (1, u "java/lang/Exception"), (0, u "<init>"), (0, u "()V"), (0, .methodref 2 8), (0, .nameAndType 5 9), (0, u "(Ljava/lang/String;)V"), (9, .class_ 20), (0, u "java/lang/RuntimeException"), (0, u "serialVersionUID"), (0, u "J")] 17

def k10m0 : Method := { name := "<init>", desc := "()V", sig := { parameters := [], returnType := none }, accessFlags := 1, code := none }
def k10c1 : Code := { maxStack := 2, maxLocals := 2, code := jdk_58_method_2_code, exceptionTable := #[], attributes := #[] }
def k10m1 : Method := { name := "<init>", desc := "(Ljava/lang/String;)V", sig := { parameters := [(.object "java/lang/String")], returnType := none }, accessFlags := 1, code := some k10c1 }
/-- java/lang/RuntimeException -/
def k10 : Class := { plain "java/lang/RuntimeException" (some 9) with
  accessFlags := 33
  interfaces := #[]
  cf := some (fileOf pool10 19 #[] #[{ accessFlags := 1, nameIndex := 5, descriptorIndex := 6, attributes := #[] }, { accessFlags := 1, nameIndex := 5, descriptorIndex := 9, attributes := #[] }] 33 2 #[] #[{ accessFlags := 24, nameIndex := 21, descriptorIndex := 22, attributes := #[] }])
  fields := #[{ name := "serialVersionUID", type := .long, accessFlags := 24, slot := 0, constantValue := 0 }]
  methods := #[k10m0, k10m1]
  instanceTypes := #[(.object "java/lang/Object"), (.object "java/lang/String"), (.object "java/lang/Throwable"), (.array (.object "java/lang/StackTraceElement")), .int, (.object "java/util/List")]
  staticTypes := #[.long]
  resolved := Array.replicate 40 none
  statics := none }

def pool11 : Array CpInfo := pool [(1, .methodref 2 3), (0, .class_ 4), (0, .nameAndType 5 6), (0, u "java/lang/RuntimeException"), (0, u "<init>"), (0, u "(Ljava/lang/String;)V"), (4, .class_ 13), (1, u "com/example/aggregate_lock/aggregatelock/outcome/AggregateLockException"), (6, .class_ 21), (0, u "java/lang/StringBuilder"), (0, .methodref 20 23), (0, .nameAndType 5 24), (0, u "()V"), (0, .methodref 20 26), (0, .nameAndType 27 28), (0, u "append"), (0, u "(Ljava/lang/String;)Ljava/lang/StringBuilder;"), (7, u "()Ljava/lang/String;"), (0, .methodref 20 38), (0, .nameAndType 39 36), (0, u "toString"), (1, .string 42), (0, u "type must not be null"), (0, .methodref 44 45), (0, .class_ 46), (0, .nameAndType 47 48), (0, u "java/util/Objects"), (0, u "requireNonNull"), (0, u "(Ljava/lang/Object;Ljava/lang/String;)Ljava/lang/Object;"), (0, .string 50), (0, u "id must not be null"), (0, .string 52), (0, u "The aggregate of type "), (0, .string 54), (0, u " with id "), (4, u "serialVersionUID"), (0, u "J"), (6, u "requireKey"), (0, u "(Ljava/lang/String;Ljava/lang/String;)V"), (0, u "aggregate"), (0, u "(Ljava/lang/String;Ljava/lang/String;)Ljava/lang/String;")] 2

def k11c0 : Code := { maxStack := 2, maxLocals := 2, code := prog_7_method_1_code, exceptionTable := #[], attributes := #[] }
def k11m0 : Method := { name := "<init>", desc := "(Ljava/lang/String;)V", sig := { parameters := [(.object "java/lang/String")], returnType := none }, accessFlags := 1, code := some k11c0 }
def k11c1 : Code := { maxStack := 2, maxLocals := 2, code := prog_7_method_5_code, exceptionTable := #[], attributes := #[] }
def k11m1 : Method := { name := "requireKey", desc := "(Ljava/lang/String;Ljava/lang/String;)V", sig := { parameters := [(.object "java/lang/String"), (.object "java/lang/String")], returnType := none }, accessFlags := 8, code := some k11c1 }
def k11c2 : Code := { maxStack := 2, maxLocals := 2, code := prog_7_method_6_code, exceptionTable := #[], attributes := #[] }
def k11m2 : Method := { name := "aggregate", desc := "(Ljava/lang/String;Ljava/lang/String;)Ljava/lang/String;", sig := { parameters := [(.object "java/lang/String"), (.object "java/lang/String")], returnType := some (.object "java/lang/String") }, accessFlags := 8, code := some k11c2 }
/-- com/example/aggregate_lock/aggregatelock/outcome/AggregateLockException -/
def k11 : Class := { plain "com/example/aggregate_lock/aggregatelock/outcome/AggregateLockException" (some 10) with
  accessFlags := 33
  interfaces := #[]
  cf := some (fileOf pool11 11 #[] #[{ accessFlags := 1, nameIndex := 5, descriptorIndex := 6, attributes := #[] }, { accessFlags := 8, nameIndex := 67, descriptorIndex := 68, attributes := #[] }, { accessFlags := 8, nameIndex := 69, descriptorIndex := 70, attributes := #[] }] 33 2 #[] #[{ accessFlags := 26, nameIndex := 59, descriptorIndex := 60, attributes := #[] }])
  fields := #[{ name := "serialVersionUID", type := .long, accessFlags := 26, slot := 0, constantValue := 0 }]
  methods := #[k11m0, k11m1, k11m2]
  instanceTypes := #[(.object "java/lang/Object"), (.object "java/lang/String"), (.object "java/lang/Throwable"), (.array (.object "java/lang/StackTraceElement")), .int, (.object "java/util/List")]
  staticTypes := #[.long]
  resolved := Array.replicate 73 none
  statics := none }

def pool12 : Array CpInfo := pool [(1, .methodref 2 3), (0, .class_ 4), (0, .nameAndType 5 6), (0, u "com/example/aggregate_lock/aggregatelock/outcome/AggregateLockException"), (0, u "<init>"), (0, u "(Ljava/lang/String;)V"), (0, .fieldref 8 9), (0, .class_ 10), (0, .nameAndType 11 12), (0, u "com/example/aggregate_lock/aggregatelock/outcome/VersionConflictException"), (0, u "type"), (0, u "Ljava/lang/String;"), (0, .fieldref 8 14), (0, .nameAndType 15 12), (0, u "id"), (0, .fieldref 8 17), (0, .nameAndType 18 19), (0, u "expectedVersion"), (0, u "J"), (0, .fieldref 8 21), (0, .nameAndType 22 23), (0, u "currentVersion"), (0, u "Ljava/lang/Long;"), (0, .fieldref 8 25), (0, .nameAndType 26 12), (0, u "changedBy"), (0, .fieldref 8 28), (0, .nameAndType 29 30), (0, u "changedAt"), (0, u "Ljava/time/Instant;"), (0, .fieldref 8 32), (0, .nameAndType 33 34), (0, u "deleted"), (0, u "Z"), (0, .methodref 8 36), (0, .nameAndType 37 38), (0, u "requireKey"), (0, u "(Ljava/lang/String;Ljava/lang/String;)V"), (4, .class_ 44), (0, u "java/lang/StringBuilder"), (0, .methodref 43 46), (0, .nameAndType 5 47), (0, u "()V"), (0, .methodref 43 49), (0, .nameAndType 50 51), (0, u "append"), (0, u "(Ljava/lang/String;)Ljava/lang/StringBuilder;"), (5, .methodref 43 58), (0, .nameAndType 59 60), (0, u "toString"), (0, u "()Ljava/lang/String;"), (0, .methodref 8 62), (0, .nameAndType 63 64), (0, u "aggregate"), (0, u "(Ljava/lang/String;Ljava/lang/String;)Ljava/lang/String;"), (2, .methodref 43 68), (0, .nameAndType 50 69), (0, u "(J)Ljava/lang/StringBuilder;"), (14, .methodref 8 85), (0, .nameAndType 5 86), (0, u "(Ljava/lang/String;Ljava/lang/String;Ljava/lang/String;JLjava/lang/Long;Ljava/lang/String;Ljava/time/Instant;Z)V"), (4, .methodref 8 92), (0, .nameAndType 93 94), (0, u "expectation"), (0, u "(J)Ljava/lang/String;"), (0, .string 96), (0, u " does not exist: it was never created; "), (10, .string 108), (0, u "the call named no version"), (0, .string 110), (0, u "the call expected version "), (0, .methodref 112 113), (0, .class_ 114), (0, .nameAndType 115 116), (0, u "java/util/OptionalLong"), (0, u "empty"), (0, u "()Ljava/util/OptionalLong;"), (3, u "()J"), (4, u "serialVersionUID"), (12, u "neverCreated"), (0, u "(Ljava/lang/String;Ljava/lang/String;J)Lcom/example/aggregate_lock/aggregatelock/outcome/VersionConflictException;"), (0, u "()Ljava/time/Instant;"), (0, u "()Z")] 2

def k12c0 : Code := { maxStack := 3, maxLocals := 10, code := prog_14_method_1_code, exceptionTable := #[], attributes := #[] }
def k12m0 : Method := { name := "<init>", desc := "(Ljava/lang/String;Ljava/lang/String;Ljava/lang/String;JLjava/lang/Long;Ljava/lang/String;Ljava/time/Instant;Z)V", sig := { parameters := [(.object "java/lang/String"), (.object "java/lang/String"), (.object "java/lang/String"), .long, (.object "java/lang/Long"), (.object "java/lang/String"), (.object "java/time/Instant"), .boolean], returnType := none }, accessFlags := 2, code := some k12c0 }
def k12c1 : Code := { maxStack := 11, maxLocals := 5, code := prog_14_method_4_code, exceptionTable := #[], attributes := #[] }
def k12m1 : Method := { name := "neverCreated", desc := "(Ljava/lang/String;Ljava/lang/String;J)Lcom/example/aggregate_lock/aggregatelock/outcome/VersionConflictException;", sig := { parameters := [(.object "java/lang/String"), (.object "java/lang/String"), .long], returnType := some (.object "com/example/aggregate_lock/aggregatelock/outcome/VersionConflictException") }, accessFlags := 9, code := some k12c1 }
def k12c2 : Code := { maxStack := 4, maxLocals := 2, code := prog_14_method_6_code, exceptionTable := #[], attributes := #[] }
def k12m2 : Method := { name := "expectation", desc := "(J)Ljava/lang/String;", sig := { parameters := [.long], returnType := some (.object "java/lang/String") }, accessFlags := 10, code := some k12c2 }
def k12c3 : Code := { maxStack := 1, maxLocals := 1, code := prog_14_method_7_code, exceptionTable := #[], attributes := #[] }
def k12m3 : Method := { name := "type", desc := "()Ljava/lang/String;", sig := { parameters := [], returnType := some (.object "java/lang/String") }, accessFlags := 1, code := some k12c3 }
def k12c4 : Code := { maxStack := 1, maxLocals := 1, code := prog_14_method_8_code, exceptionTable := #[], attributes := #[] }
def k12m4 : Method := { name := "id", desc := "()Ljava/lang/String;", sig := { parameters := [], returnType := some (.object "java/lang/String") }, accessFlags := 1, code := some k12c4 }
def k12c5 : Code := { maxStack := 2, maxLocals := 1, code := prog_14_method_9_code, exceptionTable := #[], attributes := #[] }
def k12m5 : Method := { name := "expectedVersion", desc := "()J", sig := { parameters := [], returnType := some .long }, accessFlags := 1, code := some k12c5 }
def k12c6 : Code := { maxStack := 2, maxLocals := 1, code := prog_14_method_10_code, exceptionTable := #[], attributes := #[] }
def k12m6 : Method := { name := "currentVersion", desc := "()Ljava/util/OptionalLong;", sig := { parameters := [], returnType := some (.object "java/util/OptionalLong") }, accessFlags := 1, code := some k12c6 }
def k12c7 : Code := { maxStack := 1, maxLocals := 1, code := prog_14_method_11_code, exceptionTable := #[], attributes := #[] }
def k12m7 : Method := { name := "changedBy", desc := "()Ljava/lang/String;", sig := { parameters := [], returnType := some (.object "java/lang/String") }, accessFlags := 1, code := some k12c7 }
def k12c8 : Code := { maxStack := 1, maxLocals := 1, code := prog_14_method_12_code, exceptionTable := #[], attributes := #[] }
def k12m8 : Method := { name := "changedAt", desc := "()Ljava/time/Instant;", sig := { parameters := [], returnType := some (.object "java/time/Instant") }, accessFlags := 1, code := some k12c8 }
def k12c9 : Code := { maxStack := 1, maxLocals := 1, code := prog_14_method_13_code, exceptionTable := #[], attributes := #[] }
def k12m9 : Method := { name := "deleted", desc := "()Z", sig := { parameters := [], returnType := some .boolean }, accessFlags := 1, code := some k12c9 }
/-- com/example/aggregate_lock/aggregatelock/outcome/VersionConflictException -/
def k12 : Class := { plain "com/example/aggregate_lock/aggregatelock/outcome/VersionConflictException" (some 11) with
  accessFlags := 49
  interfaces := #[]
  cf := some (fileOf pool12 8 #[] #[{ accessFlags := 2, nameIndex := 5, descriptorIndex := 86, attributes := #[] }, { accessFlags := 9, nameIndex := 138, descriptorIndex := 139, attributes := #[] }, { accessFlags := 10, nameIndex := 93, descriptorIndex := 94, attributes := #[] }, { accessFlags := 1, nameIndex := 11, descriptorIndex := 60, attributes := #[] }, { accessFlags := 1, nameIndex := 15, descriptorIndex := 60, attributes := #[] }, { accessFlags := 1, nameIndex := 18, descriptorIndex := 120, attributes := #[] }, { accessFlags := 1, nameIndex := 22, descriptorIndex := 116, attributes := #[] }, { accessFlags := 1, nameIndex := 26, descriptorIndex := 60, attributes := #[] }, { accessFlags := 1, nameIndex := 29, descriptorIndex := 140, attributes := #[] }, { accessFlags := 1, nameIndex := 33, descriptorIndex := 141, attributes := #[] }] 49 2 #[] #[{ accessFlags := 26, nameIndex := 125, descriptorIndex := 19, attributes := #[] }, { accessFlags := 18, nameIndex := 11, descriptorIndex := 12, attributes := #[] }, { accessFlags := 18, nameIndex := 15, descriptorIndex := 12, attributes := #[] }, { accessFlags := 18, nameIndex := 18, descriptorIndex := 19, attributes := #[] }, { accessFlags := 18, nameIndex := 22, descriptorIndex := 23, attributes := #[] }, { accessFlags := 18, nameIndex := 26, descriptorIndex := 12, attributes := #[] }, { accessFlags := 18, nameIndex := 29, descriptorIndex := 30, attributes := #[] }, { accessFlags := 18, nameIndex := 33, descriptorIndex := 34, attributes := #[] }])
  fields := #[{ name := "serialVersionUID", type := .long, accessFlags := 26, slot := 0, constantValue := 0 }, { name := "type", type := (.object "java/lang/String"), accessFlags := 18, slot := 6, constantValue := 0 }, { name := "id", type := (.object "java/lang/String"), accessFlags := 18, slot := 7, constantValue := 0 }, { name := "expectedVersion", type := .long, accessFlags := 18, slot := 8, constantValue := 0 }, { name := "currentVersion", type := (.object "java/lang/Long"), accessFlags := 18, slot := 9, constantValue := 0 }, { name := "changedBy", type := (.object "java/lang/String"), accessFlags := 18, slot := 10, constantValue := 0 }, { name := "changedAt", type := (.object "java/time/Instant"), accessFlags := 18, slot := 11, constantValue := 0 }, { name := "deleted", type := .boolean, accessFlags := 18, slot := 12, constantValue := 0 }]
  methods := #[k12m0, k12m1, k12m2, k12m3, k12m4, k12m5, k12m6, k12m7, k12m8, k12m9]
  instanceTypes := #[(.object "java/lang/Object"), (.object "java/lang/String"), (.object "java/lang/Throwable"), (.array (.object "java/lang/StackTraceElement")), .int, (.object "java/util/List"), (.object "java/lang/String"), (.object "java/lang/String"), .long, (.object "java/lang/Long"), (.object "java/lang/String"), (.object "java/time/Instant"), .boolean]
  staticTypes := #[.long]
  resolved := Array.replicate 144 none
  statics := none }

def pool13 : Array CpInfo := pool [(2, .class_ 4), (1, u "java/lang/Object"), (0, u "<init>"), (0, u "()V"), (35, .class_ 44), (1, u "java/util/Objects"), (0, u "requireNonNull"), (48, u "(Ljava/lang/Object;Ljava/lang/String;)Ljava/lang/Object;")] 89

def k13m0 : Method := { name := "<init>", desc := "()V", sig := { parameters := [], returnType := none }, accessFlags := 2, code := none }
def k13c1 : Code := { maxStack := 3, maxLocals := 2, code := jdk_31_method_11_code, exceptionTable := #[], attributes := #[] }
def k13m1 : Method := { name := "requireNonNull", desc := "(Ljava/lang/Object;Ljava/lang/String;)Ljava/lang/Object;", sig := { parameters := [(.object "java/lang/Object"), (.object "java/lang/String")], returnType := some (.object "java/lang/Object") }, accessFlags := 9, code := some k13c1 }
/-- java/util/Objects -/
def k13 : Class := { plain "java/util/Objects" (some 0) with
  accessFlags := 49
  interfaces := #[]
  cf := some (fileOf pool13 42 #[] #[{ accessFlags := 2, nameIndex := 5, descriptorIndex := 6, attributes := #[] }, { accessFlags := 9, nameIndex := 45, descriptorIndex := 94, attributes := #[] }] 49 2 #[] #[])
  fields := #[]
  methods := #[k13m0, k13m1]
  instanceTypes := #[]
  staticTypes := #[]
  resolved := Array.replicate 184 none
  statics := none }

def pool14 : Array CpInfo := pool [(1, .class_ 2), (0, u "java/lang/Appendable"), (0, .class_ 4), (0, u "java/lang/Object")] 9

/-- java/lang/Appendable -/
def k14 : Class := { plain "java/lang/Appendable" (some 0) with
  accessFlags := 1537
  interfaces := #[]
  cf := some (fileOf pool14 1 #[] #[] 1537 3 #[] #[])
  fields := #[]
  methods := #[]
  instanceTypes := #[]
  staticTypes := #[]
  resolved := Array.replicate 14 none
  statics := none }

def pool15 : Array CpInfo := pool [(1, .class_ 2), (0, u "java/lang/String"), (0, .methodref 4 5), (0, .class_ 6), (0, .nameAndType 7 8), (0, u "java/lang/Object"), (0, u "<init>"), (0, u "()V"), (1, .class_ 12), (1, u "java/lang/AbstractStringBuilder"), (0, u "EMPTYVALUE"), (0, u "[B"), (0, .fieldref 10 16), (0, .nameAndType 17 14), (0, u "value"), (0, .fieldref 1 19), (0, .nameAndType 20 21), (0, u "COMPACT_STRINGS"), (0, u "Z"), (0, .fieldref 10 23), (0, .nameAndType 24 25), (0, u "coder"), (0, u "B"), (6, .methodref 1 33), (0, .nameAndType 34 35), (0, u "length"), (0, u "()I"), (3, .integer 2147483647), (0, .methodref 1 41), (0, .nameAndType 24 42), (0, u "()B"), (2, u "append"), (0, u "(Ljava/lang/String;)Ljava/lang/AbstractStringBuilder;"), (1, .class_ 49), (0, u "java/lang/CharSequence"), (19, u "(Ljava/lang/String;)V"), (5, u "maybeLatin1"), (3, .fieldref 10 80), (0, .nameAndType 81 82), (0, u "count"), (0, u "I"), (0, .methodref 10 84), (0, .nameAndType 85 86), (0, u "isLatin1"), (0, u "()Z"), (13, .methodref 10 101), (0, .nameAndType 102 103), (0, u "ensureCapacityInternal"), (0, u "(I)V"), (0, .methodref 10 105), (0, .nameAndType 106 107), (0, u "newCapacity"), (0, u "(I)I"), (0, .methodref 109 110), (0, .class_ 111), (0, .nameAndType 112 113), (0, u "java/util/Arrays"), (0, u "copyOf"), (0, u "([BI)[B"), (0, .methodref 115 116), (0, .class_ 117), (0, .nameAndType 118 119), (0, u "jdk/internal/util/ArraysSupport"), (0, u "newLength"), (0, u "(III)I"), (68, u "getChars"), (19, .methodref 10 209), (0, .nameAndType 210 211), (0, u "putStringAt"), (0, u "(ILjava/lang/String;)V"), (5, u "inflateIfNeededFor"), (2, .nameAndType 221 222), (0, u "getBytes"), (0, u "([BIB)V"), (24, u "stringSize"), (6, .methodref 255 256), (0, .class_ 257), (0, .nameAndType 247 258), (0, u "java/lang/Long"), (0, u "(J)I"), (0, .methodref 255 260), (0, .nameAndType 188 261), (0, u "(JI[B)I"), (135, .methodref 10 398), (0, .nameAndType 217 69), (0, .methodref 1 220), (3, u "()[B"), (40, .class_ 445), (0, u "java/lang/Appendable"), (67, u "(J)Ljava/lang/AbstractStringBuilder;"), (38, u "getValue")] 56

def k15m0 : Method := { name := "<init>", desc := "()V", sig := { parameters := [], returnType := none }, accessFlags := 0, code := none }
def k15c1 : Code := { maxStack := 2, maxLocals := 2, code := jdk_68_method_2_code, exceptionTable := #[], attributes := #[] }
def k15m1 : Method := { name := "<init>", desc := "(I)V", sig := { parameters := [.int], returnType := none }, accessFlags := 0, code := some k15c1 }
def k15c2 : Code := { maxStack := 1, maxLocals := 1, code := jdk_68_method_6_code, exceptionTable := #[], attributes := #[] }
def k15m2 : Method := { name := "length", desc := "()I", sig := { parameters := [], returnType := some .int }, accessFlags := 1, code := some k15c2 }
def k15c3 : Code := { maxStack := 4, maxLocals := 3, code := jdk_68_method_9_code, exceptionTable := #[], attributes := #[] }
def k15m3 : Method := { name := "ensureCapacityInternal", desc := "(I)V", sig := { parameters := [.int], returnType := none }, accessFlags := 2, code := some k15c3 }
def k15c4 : Code := { maxStack := 5, maxLocals := 6, code := jdk_68_method_10_code, exceptionTable := #[], attributes := #[] }
def k15m4 : Method := { name := "newCapacity", desc := "(I)I", sig := { parameters := [.int], returnType := some .int }, accessFlags := 2, code := some k15c4 }
def k15c5 : Code := { maxStack := 3, maxLocals := 3, code := jdk_68_method_22_code, exceptionTable := #[], attributes := #[] }
def k15m5 : Method := { name := "append", desc := "(Ljava/lang/String;)Ljava/lang/AbstractStringBuilder;", sig := { parameters := [(.object "java/lang/String")], returnType := some (.object "java/lang/AbstractStringBuilder") }, accessFlags := 1, code := some k15c5 }
def k15c6 : Code := { maxStack := 5, maxLocals := 5, code := jdk_68_method_33_code, exceptionTable := #[], attributes := #[] }
def k15m6 : Method := { name := "append", desc := "(J)Ljava/lang/AbstractStringBuilder;", sig := { parameters := [.long], returnType := some (.object "java/lang/AbstractStringBuilder") }, accessFlags := 1, code := some k15c6 }
def k15c7 : Code := { maxStack := 1, maxLocals := 1, code := jdk_68_method_64_code, exceptionTable := #[], attributes := #[] }
def k15m7 : Method := { name := "getValue", desc := "()[B", sig := { parameters := [], returnType := some (.array .byte) }, accessFlags := 16, code := some k15c7 }
def k15c8 : Code := { maxStack := 1, maxLocals := 1, code := jdk_68_method_68_code, exceptionTable := #[], attributes := #[] }
def k15m8 : Method := { name := "isLatin1", desc := "()Z", sig := { parameters := [], returnType := some .boolean }, accessFlags := 16, code := some k15c8 }
def k15c9 : Code := { maxStack := 2, maxLocals := 2, code := jdk_68_method_71_code, exceptionTable := #[], attributes := #[] }
def k15m9 : Method := { name := "inflateIfNeededFor", desc := "(Ljava/lang/String;)V", sig := { parameters := [(.object "java/lang/String")], returnType := none }, accessFlags := 2, code := some k15c9 }
def k15c10 : Code := { maxStack := 4, maxLocals := 3, code := jdk_68_method_73_code, exceptionTable := #[], attributes := #[] }
def k15m10 : Method := { name := "putStringAt", desc := "(ILjava/lang/String;)V", sig := { parameters := [.int, (.object "java/lang/String")], returnType := none }, accessFlags := 2, code := some k15c10 }
/-- java/lang/AbstractStringBuilder -/
def k15 : Class := { plain "java/lang/AbstractStringBuilder" (some 0) with
  accessFlags := 1056
  interfaces := #[14, 4]
  cf := some (fileOf pool15 10 #[] #[{ accessFlags := 0, nameIndex := 7, descriptorIndex := 8, attributes := #[] }, { accessFlags := 0, nameIndex := 7, descriptorIndex := 103, attributes := #[] }, { accessFlags := 1, nameIndex := 34, descriptorIndex := 35, attributes := #[] }, { accessFlags := 2, nameIndex := 102, descriptorIndex := 103, attributes := #[] }, { accessFlags := 2, nameIndex := 106, descriptorIndex := 107, attributes := #[] }, { accessFlags := 1, nameIndex := 45, descriptorIndex := 46, attributes := #[] }, { accessFlags := 1, nameIndex := 45, descriptorIndex := 513, attributes := #[] }, { accessFlags := 16, nameIndex := 552, descriptorIndex := 403, attributes := #[] }, { accessFlags := 16, nameIndex := 85, descriptorIndex := 86, attributes := #[] }, { accessFlags := 2, nameIndex := 217, descriptorIndex := 69, attributes := #[] }, { accessFlags := 2, nameIndex := 210, descriptorIndex := 211, attributes := #[] }] 1056 4 #[444, 48] #[{ accessFlags := 0, nameIndex := 17, descriptorIndex := 14, attributes := #[] }, { accessFlags := 0, nameIndex := 24, descriptorIndex := 25, attributes := #[] }, { accessFlags := 0, nameIndex := 75, descriptorIndex := 21, attributes := #[] }, { accessFlags := 0, nameIndex := 81, descriptorIndex := 82, attributes := #[] }, { accessFlags := 26, nameIndex := 13, descriptorIndex := 14, attributes := #[] }])
  fields := #[{ name := "value", type := (.array .byte), accessFlags := 0, slot := 0, constantValue := 0 }, { name := "coder", type := .byte, accessFlags := 0, slot := 1, constantValue := 0 }, { name := "maybeLatin1", type := .boolean, accessFlags := 0, slot := 2, constantValue := 0 }, { name := "count", type := .int, accessFlags := 0, slot := 3, constantValue := 0 }, { name := "EMPTYVALUE", type := (.array .byte), accessFlags := 26, slot := 0, constantValue := 0 }]
  methods := #[k15m0, k15m1, k15m2, k15m3, k15m4, k15m5, k15m6, k15m7, k15m8, k15m9, k15m10]
  instanceTypes := #[(.array .byte), .byte, .boolean, .int]
  staticTypes := #[(.array .byte)]
  resolved := Array.replicate 609 none
  statics := none }

def pool16 : Array CpInfo := pool [(1, .methodref 2 3), (0, .class_ 4), (0, .nameAndType 5 6), (0, u "java/lang/AbstractStringBuilder"), (0, u "<init>"), (0, u "(I)V"), (11, .class_ 20), (1, u "java/lang/String"), (3, .class_ 26), (1, u "java/lang/StringBuilder"), (0, u "append"), (0, u "(Ljava/lang/String;)Ljava/lang/StringBuilder;"), (0, .methodref 2 30), (0, .nameAndType 27 31), (0, u "(Ljava/lang/String;)Ljava/lang/AbstractStringBuilder;"), (24, .methodref 2 57), (0, .nameAndType 27 58), (0, u "(J)Ljava/lang/AbstractStringBuilder;"), (78, .methodref 18 138), (0, .nameAndType 5 139), (0, u "(Ljava/lang/StringBuilder;)V"), (5, u "()V"), (10, u "()I"), (124, u "(J)Ljava/lang/StringBuilder;"), (61, .methodref 2 344), (0, .nameAndType 345 156), (0, u "length"), (3, .class_ 350), (0, u "java/lang/Appendable"), (0, .class_ 352), (0, u "java/io/Serializable"), (0, .class_ 354), (0, u "java/lang/Comparable"), (0, .class_ 356), (0, u "java/lang/CharSequence"), (0, u "serialVersionUID"), (0, u "J"), (40, u "toString"), (0, u "()Ljava/lang/String;")] 21

def k16c0 : Code := { maxStack := 2, maxLocals := 1, code := jdk_67_method_1_code, exceptionTable := #[], attributes := #[] }
def k16m0 : Method := { name := "<init>", desc := "()V", sig := { parameters := [], returnType := none }, accessFlags := 1, code := some k16c0 }
def k16c1 : Code := { maxStack := 2, maxLocals := 2, code := jdk_67_method_7_code, exceptionTable := #[], attributes := #[] }
def k16m1 : Method := { name := "append", desc := "(Ljava/lang/String;)Ljava/lang/StringBuilder;", sig := { parameters := [(.object "java/lang/String")], returnType := some (.object "java/lang/StringBuilder") }, accessFlags := 1, code := some k16c1 }
def k16c2 : Code := { maxStack := 3, maxLocals := 3, code := jdk_67_method_16_code, exceptionTable := #[], attributes := #[] }
def k16m2 : Method := { name := "append", desc := "(J)Ljava/lang/StringBuilder;", sig := { parameters := [.long], returnType := some (.object "java/lang/StringBuilder") }, accessFlags := 1, code := some k16c2 }
def k16c3 : Code := { maxStack := 3, maxLocals := 1, code := jdk_67_method_42_code, exceptionTable := #[], attributes := #[] }
def k16m3 : Method := { name := "toString", desc := "()Ljava/lang/String;", sig := { parameters := [], returnType := some (.object "java/lang/String") }, accessFlags := 1, code := some k16c3 }
def k16c4 : Code := { maxStack := 1, maxLocals := 1, code := jdk_67_method_93_code, exceptionTable := #[], attributes := #[] }
def k16m4 : Method := { name := "length", desc := "()I", sig := { parameters := [], returnType := some .int }, accessFlags := 4161, code := some k16c4 }
/-- java/lang/StringBuilder -/
def k16 : Class := { plain "java/lang/StringBuilder" (some 15) with
  accessFlags := 49
  interfaces := #[14, 2, 3, 4]
  cf := some (fileOf pool16 24 #[] #[{ accessFlags := 1, nameIndex := 5, descriptorIndex := 145, attributes := #[] }, { accessFlags := 1, nameIndex := 27, descriptorIndex := 28, attributes := #[] }, { accessFlags := 1, nameIndex := 27, descriptorIndex := 281, attributes := #[] }, { accessFlags := 1, nameIndex := 399, descriptorIndex := 400, attributes := #[] }, { accessFlags := 4161, nameIndex := 345, descriptorIndex := 156, attributes := #[] }] 49 2 #[349, 351, 353, 355] #[{ accessFlags := 24, nameIndex := 357, descriptorIndex := 358, attributes := #[] }])
  fields := #[{ name := "serialVersionUID", type := .long, accessFlags := 24, slot := 0, constantValue := 0 }]
  methods := #[k16m0, k16m1, k16m2, k16m3, k16m4]
  instanceTypes := #[(.array .byte), .byte, .boolean, .int]
  staticTypes := #[.long]
  resolved := Array.replicate 422 none
  statics := none }

def pool17 : Array CpInfo := pool [(9, u "<init>"), (6, .class_ 18), (1, u "java/lang/Object"), (0, u "()V"), (1, .class_ 23), (1, u "jdk/internal/util/ArraysSupport"), (0, u "LOG2_ARRAY_LONG_INDEX_SCALE"), (0, u "I"), (2, u "U"), (0, u "Ljdk/internal/misc/Unsafe;"), (8, u "BIG_ENDIAN"), (0, u "Z"), (8, u "LOG2_BYTE_BIT_SIZE"), (4, u "LOG2_ARRAY_INT_INDEX_SCALE"), (54, u "JLA"), (0, u "Ljdk/internal/access/JavaLangAccess;"), (11, u "LOG2_ARRAY_BOOLEAN_INDEX_SCALE"), (9, u "LOG2_ARRAY_BYTE_INDEX_SCALE"), (5, u "LOG2_ARRAY_CHAR_INDEX_SCALE"), (5, u "LOG2_ARRAY_SHORT_INDEX_SCALE"), (18, u "LOG2_ARRAY_FLOAT_INDEX_SCALE"), (24, u "LOG2_ARRAY_DOUBLE_INDEX_SCALE"), (6, .methodref 195 196), (0, .class_ 197), (0, .nameAndType 198 199), (0, u "java/lang/Math"), (0, u "max"), (0, u "(II)I"), (0, .integer 2147483639), (76, u "T_BOOLEAN"), (2, u "T_CHAR"), (1, u "T_FLOAT"), (1, u "T_DOUBLE"), (1, u "T_BYTE"), (1, u "T_SHORT"), (1, u "T_INT"), (1, u "T_LONG"), (1, u "SOFT_MAX_ARRAY_LENGTH"), (56, u "newLength"), (0, u "(III)I")] 25

def k17m0 : Method := { name := "<init>", desc := "()V", sig := { parameters := [], returnType := none }, accessFlags := 2, code := none }
def k17c1 : Code := { maxStack := 3, maxLocals := 4, code := jdk_48_method_27_code, exceptionTable := #[], attributes := #[] }
def k17m1 : Method := { name := "newLength", desc := "(III)I", sig := { parameters := [.int, .int, .int], returnType := some .int }, accessFlags := 9, code := some k17c1 }
/-- jdk/internal/util/ArraysSupport -/
def k17 : Class := { plain "jdk/internal/util/ArraysSupport" (some 0) with
  accessFlags := 33
  interfaces := #[]
  cf := some (fileOf pool17 21 #[] #[{ accessFlags := 2, nameIndex := 9, descriptorIndex := 19, attributes := #[] }, { accessFlags := 9, nameIndex := 351, descriptorIndex := 352, attributes := #[] }] 33 16 #[] #[{ accessFlags := 24, nameIndex := 28, descriptorIndex := 29, attributes := #[] }, { accessFlags := 26, nameIndex := 38, descriptorIndex := 39, attributes := #[] }, { accessFlags := 25, nameIndex := 121, descriptorIndex := 25, attributes := #[] }, { accessFlags := 25, nameIndex := 131, descriptorIndex := 25, attributes := #[] }, { accessFlags := 25, nameIndex := 137, descriptorIndex := 25, attributes := #[] }, { accessFlags := 25, nameIndex := 143, descriptorIndex := 25, attributes := #[] }, { accessFlags := 25, nameIndex := 53, descriptorIndex := 25, attributes := #[] }, { accessFlags := 25, nameIndex := 24, descriptorIndex := 25, attributes := #[] }, { accessFlags := 25, nameIndex := 162, descriptorIndex := 25, attributes := #[] }, { accessFlags := 25, nameIndex := 187, descriptorIndex := 25, attributes := #[] }, { accessFlags := 26, nameIndex := 48, descriptorIndex := 25, attributes := #[] }, { accessFlags := 25, nameIndex := 277, descriptorIndex := 25, attributes := #[] }, { accessFlags := 25, nameIndex := 280, descriptorIndex := 25, attributes := #[] }, { accessFlags := 25, nameIndex := 282, descriptorIndex := 25, attributes := #[] }, { accessFlags := 25, nameIndex := 284, descriptorIndex := 25, attributes := #[] }, { accessFlags := 25, nameIndex := 286, descriptorIndex := 25, attributes := #[] }, { accessFlags := 25, nameIndex := 288, descriptorIndex := 25, attributes := #[] }, { accessFlags := 25, nameIndex := 290, descriptorIndex := 25, attributes := #[] }, { accessFlags := 25, nameIndex := 292, descriptorIndex := 25, attributes := #[] }, { accessFlags := 26, nameIndex := 108, descriptorIndex := 109, attributes := #[] }, { accessFlags := 25, nameIndex := 294, descriptorIndex := 25, attributes := #[] }])
  fields := #[{ name := "U", type := (.object "jdk/internal/misc/Unsafe"), accessFlags := 24, slot := 0, constantValue := 0 }, { name := "BIG_ENDIAN", type := .boolean, accessFlags := 26, slot := 1, constantValue := 0 }, { name := "LOG2_ARRAY_BOOLEAN_INDEX_SCALE", type := .int, accessFlags := 25, slot := 2, constantValue := 0 }, { name := "LOG2_ARRAY_BYTE_INDEX_SCALE", type := .int, accessFlags := 25, slot := 3, constantValue := 0 }, { name := "LOG2_ARRAY_CHAR_INDEX_SCALE", type := .int, accessFlags := 25, slot := 4, constantValue := 0 }, { name := "LOG2_ARRAY_SHORT_INDEX_SCALE", type := .int, accessFlags := 25, slot := 5, constantValue := 0 }, { name := "LOG2_ARRAY_INT_INDEX_SCALE", type := .int, accessFlags := 25, slot := 6, constantValue := 0 }, { name := "LOG2_ARRAY_LONG_INDEX_SCALE", type := .int, accessFlags := 25, slot := 7, constantValue := 0 }, { name := "LOG2_ARRAY_FLOAT_INDEX_SCALE", type := .int, accessFlags := 25, slot := 8, constantValue := 0 }, { name := "LOG2_ARRAY_DOUBLE_INDEX_SCALE", type := .int, accessFlags := 25, slot := 9, constantValue := 0 }, { name := "LOG2_BYTE_BIT_SIZE", type := .int, accessFlags := 26, slot := 10, constantValue := 0 }, { name := "T_BOOLEAN", type := .int, accessFlags := 25, slot := 11, constantValue := 0 }, { name := "T_CHAR", type := .int, accessFlags := 25, slot := 12, constantValue := 0 }, { name := "T_FLOAT", type := .int, accessFlags := 25, slot := 13, constantValue := 0 }, { name := "T_DOUBLE", type := .int, accessFlags := 25, slot := 14, constantValue := 0 }, { name := "T_BYTE", type := .int, accessFlags := 25, slot := 15, constantValue := 0 }, { name := "T_SHORT", type := .int, accessFlags := 25, slot := 16, constantValue := 0 }, { name := "T_INT", type := .int, accessFlags := 25, slot := 17, constantValue := 0 }, { name := "T_LONG", type := .int, accessFlags := 25, slot := 18, constantValue := 0 }, { name := "JLA", type := (.object "jdk/internal/access/JavaLangAccess"), accessFlags := 26, slot := 19, constantValue := 0 }, { name := "SOFT_MAX_ARRAY_LENGTH", type := .int, accessFlags := 25, slot := 20, constantValue := 0 }]
  methods := #[k17m0, k17m1]
  instanceTypes := #[]
  staticTypes := #[(.object "jdk/internal/misc/Unsafe"), .boolean, .int, .int, .int, .int, .int, .int, .int, .int, .int, .int, .int, .int, .int, .int, .int, .int, .int, (.object "jdk/internal/access/JavaLangAccess"), .int]
  resolved := Array.replicate 378 none
  statics := none }

def pool18 : Array CpInfo := pool [(1, .class_ 2), (0, u "java/lang/Math"), (1, .class_ 6), (1, u "java/lang/Object"), (0, u "<init>"), (0, u "()V"), (89, .class_ 100), (1, u "java/lang/Math$RandomNumberGeneratorHolder"), (71, u "negativeZeroFloatBits"), (0, u "J"), (2, u "negativeZeroDoubleBits"), (21, u "max"), (2, u "min"), (43, u "$assertionsDisabled"), (0, u "Z"), (88, u "(II)I"), (2, u "twoToTheDoubleScaleDown"), (0, u "D"), (4, u "twoToTheDoubleScaleUp"), (9, u "E"), (3, u "PI"), (2, u "TAU"), (2, u "DEGREES_TO_RADIANS"), (0, u "RADIANS_TO_DEGREES")] 94

def k18m0 : Method := { name := "<init>", desc := "()V", sig := { parameters := [], returnType := none }, accessFlags := 2, code := none }
def k18c1 : Code := { maxStack := 2, maxLocals := 2, code := jdk_29_method_65_code, exceptionTable := #[], attributes := #[] }
def k18m1 : Method := { name := "max", desc := "(II)I", sig := { parameters := [.int, .int], returnType := some .int }, accessFlags := 9, code := some k18c1 }
def k18c2 : Code := { maxStack := 2, maxLocals := 2, code := jdk_29_method_69_code, exceptionTable := #[], attributes := #[] }
def k18m2 : Method := { name := "min", desc := "(II)I", sig := { parameters := [.int, .int], returnType := some .int }, accessFlags := 9, code := some k18c2 }
/-- java/lang/Math -/
def k18 : Class := { plain "java/lang/Math" (some 0) with
  accessFlags := 49
  interfaces := #[]
  cf := some (fileOf pool18 1 #[.nestMembers #[98]] #[{ accessFlags := 2, nameIndex := 7, descriptorIndex := 8, attributes := #[] }, { accessFlags := 9, nameIndex := 198, descriptorIndex := 335, attributes := #[] }, { accessFlags := 9, nameIndex := 201, descriptorIndex := 335, attributes := #[] }] 49 4 #[] #[{ accessFlags := 25, nameIndex := 354, descriptorIndex := 339, attributes := #[] }, { accessFlags := 25, nameIndex := 358, descriptorIndex := 339, attributes := #[] }, { accessFlags := 25, nameIndex := 361, descriptorIndex := 339, attributes := #[] }, { accessFlags := 26, nameIndex := 364, descriptorIndex := 339, attributes := #[] }, { accessFlags := 26, nameIndex := 365, descriptorIndex := 339, attributes := #[] }, { accessFlags := 26, nameIndex := 172, descriptorIndex := 173, attributes := #[] }, { accessFlags := 26, nameIndex := 176, descriptorIndex := 173, attributes := #[] }, { accessFlags := 8, nameIndex := 344, descriptorIndex := 339, attributes := #[] }, { accessFlags := 8, nameIndex := 338, descriptorIndex := 339, attributes := #[] }, { accessFlags := 4120, nameIndex := 245, descriptorIndex := 246, attributes := #[] }])
  fields := #[{ name := "E", type := .double, accessFlags := 25, slot := 0, constantValue := 0 }, { name := "PI", type := .double, accessFlags := 25, slot := 1, constantValue := 0 }, { name := "TAU", type := .double, accessFlags := 25, slot := 2, constantValue := 0 }, { name := "DEGREES_TO_RADIANS", type := .double, accessFlags := 26, slot := 3, constantValue := 0 }, { name := "RADIANS_TO_DEGREES", type := .double, accessFlags := 26, slot := 4, constantValue := 0 }, { name := "negativeZeroFloatBits", type := .long, accessFlags := 26, slot := 5, constantValue := 0 }, { name := "negativeZeroDoubleBits", type := .long, accessFlags := 26, slot := 6, constantValue := 0 }, { name := "twoToTheDoubleScaleUp", type := .double, accessFlags := 8, slot := 7, constantValue := 0 }, { name := "twoToTheDoubleScaleDown", type := .double, accessFlags := 8, slot := 8, constantValue := 0 }, { name := "$assertionsDisabled", type := .boolean, accessFlags := 4120, slot := 9, constantValue := 0 }]
  methods := #[k18m0, k18m1, k18m2]
  instanceTypes := #[]
  staticTypes := #[.double, .double, .double, .double, .double, .long, .long, .double, .double, .boolean]
  resolved := Array.replicate 460 none
  statics := none }

def pool19 : Array CpInfo := pool [(2, .class_ 4), (1, u "java/lang/Object"), (0, u "<init>"), (0, u "()V"), (7, .class_ 16), (1, u "java/util/Arrays"), (57, .class_ 76), (1, u "java/util/Arrays$NaturalOrder"), (32, u "()Ljava/lang/Object;"), (3, .class_ 115), (1, u "java/util/Arrays$LegacyMergeSort"), (1, u "Z"), (10, .nameAndType 129 109), (0, u "clone"), (9, u "copyOfRange"), (10, .methodref 151 152), (0, .class_ 153), (0, .nameAndType 154 155), (0, u "java/lang/System"), (0, u "arraycopy"), (0, u "(Ljava/lang/Object;ILjava/lang/Object;II)V"), (146, u "copyOf"), (1, .methodref 305 306), (0, .class_ 307), (0, .nameAndType 308 309), (0, u "java/lang/Math"), (0, u "min"), (0, u "(II)I"), (0, .methodref 311 128), (0, .class_ 312), (0, u "[B"), (26, .methodref 14 340), (0, .nameAndType 341 342), (0, u "copyOfRangeByte"), (0, u "([BII)[B"), (0, .methodref 14 344), (0, .nameAndType 345 346), (0, u "checkLength"), (0, u "(II)V"), (28, .class_ 376), (0, u "java/util/Arrays$ArrayList"), (68, u "$assertionsDisabled"), (269, u "MIN_ARRAY_SORT_GRAN"), (0, u "I"), (2, u "INSERTIONSORT_THRESHOLD"), (149, u "([BI)[B"), (105, .class_ 976), (0, u "java/util/Arrays$ArrayItr")] 52

def k19m0 : Method := { name := "<init>", desc := "()V", sig := { parameters := [], returnType := none }, accessFlags := 2, code := none }
def k19c1 : Code := { maxStack := 6, maxLocals := 3, code := jdk_65_method_121_code, exceptionTable := #[], attributes := #[] }
def k19m1 : Method := { name := "copyOf", desc := "([BI)[B", sig := { parameters := [(.array .byte), .int], returnType := some (.array .byte) }, accessFlags := 9, code := some k19c1 }
def k19c2 : Code := { maxStack := 4, maxLocals := 2, code := jdk_65_method_131_code, exceptionTable := #[], attributes := #[] }
def k19m2 : Method := { name := "checkLength", desc := "(II)V", sig := { parameters := [.int, .int], returnType := none }, accessFlags := 10, code := some k19c2 }
def k19c3 : Code := { maxStack := 3, maxLocals := 3, code := jdk_65_method_132_code, exceptionTable := #[], attributes := #[] }
def k19m3 : Method := { name := "copyOfRange", desc := "([BII)[B", sig := { parameters := [(.array .byte), .int, .int], returnType := some (.array .byte) }, accessFlags := 9, code := some k19c3 }
def k19c4 : Code := { maxStack := 6, maxLocals := 5, code := jdk_65_method_133_code, exceptionTable := #[], attributes := #[] }
def k19m4 : Method := { name := "copyOfRangeByte", desc := "([BII)[B", sig := { parameters := [(.array .byte), .int, .int], returnType := some (.array .byte) }, accessFlags := 10, code := some k19c4 }
/-- java/util/Arrays -/
def k19 : Class := { plain "java/util/Arrays" (some 0) with
  accessFlags := 49
  interfaces := #[]
  cf := some (fileOf pool19 14 #[.nestMembers #[975, 375, 113, 74]] #[{ accessFlags := 2, nameIndex := 5, descriptorIndex := 6, attributes := #[] }, { accessFlags := 9, nameIndex := 302, descriptorIndex := 869, attributes := #[] }, { accessFlags := 10, nameIndex := 345, descriptorIndex := 346, attributes := #[] }, { accessFlags := 9, nameIndex := 139, descriptorIndex := 342, attributes := #[] }, { accessFlags := 10, nameIndex := 341, descriptorIndex := 342, attributes := #[] }] 49 2 #[] #[{ accessFlags := 26, nameIndex := 715, descriptorIndex := 716, attributes := #[] }, { accessFlags := 26, nameIndex := 719, descriptorIndex := 716, attributes := #[] }, { accessFlags := 4120, nameIndex := 445, descriptorIndex := 117, attributes := #[] }])
  fields := #[{ name := "MIN_ARRAY_SORT_GRAN", type := .int, accessFlags := 26, slot := 0, constantValue := 0 }, { name := "INSERTIONSORT_THRESHOLD", type := .int, accessFlags := 26, slot := 1, constantValue := 0 }, { name := "$assertionsDisabled", type := .boolean, accessFlags := 4120, slot := 2, constantValue := 0 }]
  methods := #[k19m0, k19m1, k19m2, k19m3, k19m4]
  instanceTypes := #[]
  staticTypes := #[.int, .int, .boolean]
  resolved := Array.replicate 1029 none
  statics := none }

def pool20 : Array CpInfo := pool [(2, .class_ 4), (1, u "java/lang/Object"), (0, u "<init>"), (0, u "()V"), (1, .class_ 10), (1, u "java/lang/System"), (0, u "allowSecurityManager"), (0, u "I"), (16, u "cons"), (0, u "Ljava/io/Console;"), (77, .class_ 110), (1, u "java/lang/System$CallersHolder"), (43, u "initialErrStream"), (0, u "Ljava/io/PrintStream;"), (19, u "security"), (0, u "Ljava/lang/SecurityManager;"), (31, .class_ 209), (0, u "java/lang/System$1"), (7, u "props"), (0, u "Ljava/util/Properties;"), (2, u "lineSeparator"), (0, u "Ljava/lang/String;"), (96, .class_ 321), (1, u "java/lang/System$LoggerFinder"), (5, .class_ 328), (0, u "java/lang/System$Logger"), (67, u "err"), (2, u "out"), (91, u "notSupportedJnuEncoding"), (15, u "in"), (17, u "initialIn"), (0, u "Ljava/io/InputStream;"), (35, u "bootLayer"), (0, u "Ljava/lang/ModuleLayer;"), (99, .class_ 664), (0, u "java/lang/System$2"), (9, u "NEVER"), (2, u "MAYBE"), (49, u "arraycopy"), (0, u "(Ljava/lang/Object;ILjava/lang/Object;II)V"), (72, .class_ 802), (0, u "java/lang/System$Logger$Level")] 31

def k20m0 : Method := { name := "<init>", desc := "()V", sig := { parameters := [], returnType := none }, accessFlags := 2, code := none }
def k20m1 : Method := { name := "arraycopy", desc := "(Ljava/lang/Object;ILjava/lang/Object;II)V", sig := { parameters := [(.object "java/lang/Object"), .int, (.object "java/lang/Object"), .int, .int], returnType := none }, accessFlags := 265, code := none }
/-- java/lang/System -/
def k20 : Class := { plain "java/lang/System" (some 0) with
  accessFlags := 49
  interfaces := #[]
  cf := some (fileOf pool20 8 #[.nestMembers #[319, 327, 801, 108, 663, 208]] #[{ accessFlags := 2, nameIndex := 5, descriptorIndex := 6, attributes := #[] }, { accessFlags := 265, nameIndex := 727, descriptorIndex := 728, attributes := #[] }] 49 2 #[] #[{ accessFlags := 25, nameIndex := 507, descriptorIndex := 526, attributes := #[] }, { accessFlags := 25, nameIndex := 399, descriptorIndex := 155, attributes := #[] }, { accessFlags := 25, nameIndex := 396, descriptorIndex := 155, attributes := #[] }, { accessFlags := 10, nameIndex := 525, descriptorIndex := 526, attributes := #[] }, { accessFlags := 26, nameIndex := 674, descriptorIndex := 12, attributes := #[] }, { accessFlags := 26, nameIndex := 677, descriptorIndex := 12, attributes := #[] }, { accessFlags := 10, nameIndex := 11, descriptorIndex := 12, attributes := #[] }, { accessFlags := 74, nameIndex := 175, descriptorIndex := 176, attributes := #[] }, { accessFlags := 10, nameIndex := 491, descriptorIndex := 222, attributes := #[] }, { accessFlags := 74, nameIndex := 29, descriptorIndex := 30, attributes := #[] }, { accessFlags := 74, nameIndex := 154, descriptorIndex := 155, attributes := #[] }, { accessFlags := 10, nameIndex := 217, descriptorIndex := 218, attributes := #[] }, { accessFlags := 10, nameIndex := 221, descriptorIndex := 222, attributes := #[] }, { accessFlags := 8, nameIndex := 562, descriptorIndex := 563, attributes := #[] }])
  fields := #[{ name := "in", type := (.object "java/io/InputStream"), accessFlags := 25, slot := 0, constantValue := 0 }, { name := "out", type := (.object "java/io/PrintStream"), accessFlags := 25, slot := 1, constantValue := 0 }, { name := "err", type := (.object "java/io/PrintStream"), accessFlags := 25, slot := 2, constantValue := 0 }, { name := "initialIn", type := (.object "java/io/InputStream"), accessFlags := 10, slot := 3, constantValue := 0 }, { name := "NEVER", type := .int, accessFlags := 26, slot := 4, constantValue := 0 }, { name := "MAYBE", type := .int, accessFlags := 26, slot := 5, constantValue := 0 }, { name := "allowSecurityManager", type := .int, accessFlags := 10, slot := 6, constantValue := 0 }, { name := "security", type := (.object "java/lang/SecurityManager"), accessFlags := 74, slot := 7, constantValue := 0 }, { name := "notSupportedJnuEncoding", type := (.object "java/lang/String"), accessFlags := 10, slot := 8, constantValue := 0 }, { name := "cons", type := (.object "java/io/Console"), accessFlags := 74, slot := 9, constantValue := 0 }, { name := "initialErrStream", type := (.object "java/io/PrintStream"), accessFlags := 74, slot := 10, constantValue := 0 }, { name := "props", type := (.object "java/util/Properties"), accessFlags := 10, slot := 11, constantValue := 0 }, { name := "lineSeparator", type := (.object "java/lang/String"), accessFlags := 10, slot := 12, constantValue := 0 }, { name := "bootLayer", type := (.object "java/lang/ModuleLayer"), accessFlags := 8, slot := 13, constantValue := 0 }]
  methods := #[k20m0, k20m1]
  instanceTypes := #[]
  staticTypes := #[(.object "java/io/InputStream"), (.object "java/io/PrintStream"), (.object "java/io/PrintStream"), (.object "java/io/InputStream"), .int, .int, .int, (.object "java/lang/SecurityManager"), (.object "java/lang/String"), (.object "java/io/Console"), (.object "java/io/PrintStream"), (.object "java/util/Properties"), (.object "java/lang/String"), (.object "java/lang/ModuleLayer")]
  resolved := Array.replicate 834 none
  statics := none }

def pool21 : Array CpInfo := pool [(2, .class_ 4), (1, u "java/lang/Object"), (0, u "<init>"), (0, u "()V"), (1, .class_ 10), (1, u "java/lang/Number"), (2, .class_ 14), (0, u "java/io/Serializable"), (0, u "serialVersionUID"), (0, u "J")] 20

def k21m0 : Method := { name := "<init>", desc := "()V", sig := { parameters := [], returnType := none }, accessFlags := 1, code := none }
/-- java/lang/Number -/
def k21 : Class := { plain "java/lang/Number" (some 0) with
  accessFlags := 1057
  interfaces := #[2]
  cf := some (fileOf pool21 8 #[] #[{ accessFlags := 1, nameIndex := 5, descriptorIndex := 6, attributes := #[] }] 1057 2 #[13] #[{ accessFlags := 26, nameIndex := 15, descriptorIndex := 16, attributes := #[] }])
  fields := #[{ name := "serialVersionUID", type := .long, accessFlags := 26, slot := 0, constantValue := 0 }]
  methods := #[k21m0]
  instanceTypes := #[]
  staticTypes := #[.long]
  resolved := Array.replicate 37 none
  statics := none }

def pool22 : Array CpInfo := pool [(1, .class_ 2), (0, u "java/lang/Long"), (15, .class_ 20), (1, u "java/lang/Integer"), (32, .long 10), (47, u "(J)I"), (18, u "stringSize"), (2, u "getChars"), (0, u "(JI[B)I"), (4, .long 18446744071562067968), (1, .long 100), (1, .fieldref 18 134), (0, .nameAndType 135 136), (0, u "DigitOnes"), (0, u "[B"), (0, .fieldref 18 138), (0, .nameAndType 139 136), (0, u "DigitTens"), (0, .long 18446744073709551606), (94, .class_ 237), (1, u "java/lang/Long$LongCache"), (33, .class_ 272), (0, u "java/lang/Number"), (2, u "value"), (0, u "J"), (84, u "TYPE"), (0, u "Ljava/lang/Class;"), (0, .class_ 364), (0, u "java/lang/Comparable"), (0, .class_ 366), (0, u "java/lang/constant/Constable"), (0, .class_ 368), (0, u "java/lang/constant/ConstantDesc"), (0, u "MIN_VALUE"), (1, u "MAX_VALUE"), (4, u "SIZE"), (0, u "I"), (1, u "BYTES"), (1, u "serialVersionUID")] 142

def k22c0 : Code := { maxStack := 4, maxLocals := 11, code := jdk_35_method_14_code, exceptionTable := #[], attributes := #[] }
def k22m0 : Method := { name := "getChars", desc := "(JI[B)I", sig := { parameters := [.long, .int, (.array .byte)], returnType := some .int }, accessFlags := 8, code := some k22c0 }
def k22c1 : Code := { maxStack := 4, maxLocals := 6, code := jdk_35_method_15_code, exceptionTable := #[], attributes := #[] }
def k22m1 : Method := { name := "stringSize", desc := "(J)I", sig := { parameters := [.long], returnType := some .int }, accessFlags := 8, code := some k22c1 }
/-- java/lang/Long -/
def k22 : Class := { plain "java/lang/Long" (some 21) with
  accessFlags := 49
  interfaces := #[3, 5, 6]
  cf := some (fileOf pool22 1 #[.nestMembers #[235]] #[{ accessFlags := 8, nameIndex := 123, descriptorIndex := 124, attributes := #[] }, { accessFlags := 8, nameIndex := 120, descriptorIndex := 101, attributes := #[] }] 49 271 #[363, 365, 367] #[{ accessFlags := 25, nameIndex := 369, descriptorIndex := 276, attributes := #[] }, { accessFlags := 25, nameIndex := 371, descriptorIndex := 276, attributes := #[] }, { accessFlags := 25, nameIndex := 361, descriptorIndex := 362, attributes := #[] }, { accessFlags := 18, nameIndex := 275, descriptorIndex := 276, attributes := #[] }, { accessFlags := 25, nameIndex := 376, descriptorIndex := 377, attributes := #[] }, { accessFlags := 25, nameIndex := 379, descriptorIndex := 377, attributes := #[] }, { accessFlags := 26, nameIndex := 381, descriptorIndex := 276, attributes := #[] }])
  fields := #[{ name := "MIN_VALUE", type := .long, accessFlags := 25, slot := 0, constantValue := 0 }, { name := "MAX_VALUE", type := .long, accessFlags := 25, slot := 1, constantValue := 0 }, { name := "TYPE", type := (.object "java/lang/Class"), accessFlags := 25, slot := 2, constantValue := 0 }, { name := "value", type := .long, accessFlags := 18, slot := 0, constantValue := 0 }, { name := "SIZE", type := .int, accessFlags := 25, slot := 3, constantValue := 0 }, { name := "BYTES", type := .int, accessFlags := 25, slot := 4, constantValue := 0 }, { name := "serialVersionUID", type := .long, accessFlags := 26, slot := 5, constantValue := 0 }]
  methods := #[k22m0, k22m1]
  instanceTypes := #[.long]
  staticTypes := #[.long, .long, (.object "java/lang/Class"), .int, .int, .long]
  resolved := Array.replicate 524 none
  statics := none }

def pool23 : Array CpInfo := pool [(1, .class_ 2), (0, u "java/lang/Integer"), (16, u "digits"), (0, u "[C"), (64, u "DigitOnes"), (0, u "[B"), (2, u "DigitTens"), (99, .class_ 190), (0, u "java/lang/Integer$IntegerCache"), (3, u "I"), (8, .class_ 204), (0, u "java/lang/Number"), (2, u "value"), (94, u "TYPE"), (0, u "Ljava/lang/Class;"), (0, .class_ 305), (0, u "java/lang/Comparable"), (0, .class_ 307), (0, u "java/lang/constant/Constable"), (0, .class_ 309), (0, u "java/lang/constant/ConstantDesc"), (0, u "MIN_VALUE"), (1, u "MAX_VALUE"), (3, u "SIZE"), (1, u "BYTES"), (1, u "serialVersionUID"), (0, u "J")] 131

/-- java/lang/Integer -/
def k23 : Class := { plain "java/lang/Integer" (some 21) with
  accessFlags := 49
  interfaces := #[3, 5, 6]
  cf := some (fileOf pool23 1 #[.nestMembers #[189]] #[] 49 203 #[304, 306, 308] #[{ accessFlags := 25, nameIndex := 310, descriptorIndex := 194, attributes := #[] }, { accessFlags := 25, nameIndex := 312, descriptorIndex := 194, attributes := #[] }, { accessFlags := 25, nameIndex := 302, descriptorIndex := 303, attributes := #[] }, { accessFlags := 24, nameIndex := 19, descriptorIndex := 20, attributes := #[] }, { accessFlags := 24, nameIndex := 89, descriptorIndex := 86, attributes := #[] }, { accessFlags := 24, nameIndex := 85, descriptorIndex := 86, attributes := #[] }, { accessFlags := 18, nameIndex := 207, descriptorIndex := 194, attributes := #[] }, { accessFlags := 25, nameIndex := 316, descriptorIndex := 194, attributes := #[] }, { accessFlags := 25, nameIndex := 318, descriptorIndex := 194, attributes := #[] }, { accessFlags := 26, nameIndex := 320, descriptorIndex := 321, attributes := #[] }])
  fields := #[{ name := "MIN_VALUE", type := .int, accessFlags := 25, slot := 0, constantValue := 0 }, { name := "MAX_VALUE", type := .int, accessFlags := 25, slot := 1, constantValue := 0 }, { name := "TYPE", type := (.object "java/lang/Class"), accessFlags := 25, slot := 2, constantValue := 0 }, { name := "digits", type := (.array .char), accessFlags := 24, slot := 3, constantValue := 0 }, { name := "DigitTens", type := (.array .byte), accessFlags := 24, slot := 4, constantValue := 0 }, { name := "DigitOnes", type := (.array .byte), accessFlags := 24, slot := 5, constantValue := 0 }, { name := "value", type := .int, accessFlags := 18, slot := 0, constantValue := 0 }, { name := "SIZE", type := .int, accessFlags := 25, slot := 6, constantValue := 0 }, { name := "BYTES", type := .int, accessFlags := 25, slot := 7, constantValue := 0 }, { name := "serialVersionUID", type := .long, accessFlags := 26, slot := 8, constantValue := 0 }]
  methods := #[]
  instanceTypes := #[.int]
  staticTypes := #[.int, .int, (.object "java/lang/Class"), (.array .char), (.array .byte), (.array .byte), .int, .int, .long]
  resolved := Array.replicate 453 none
  statics := some 2 }

def pool24 : Array CpInfo := pool [(2, .class_ 4), (1, u "java/lang/Object"), (0, u "<init>"), (0, u "()V"), (0, .fieldref 8 9), (0, .class_ 10), (0, .nameAndType 11 12), (0, u "java/util/OptionalLong"), (0, u "isPresent"), (0, u "Z"), (2, u "value"), (0, u "J"), (0, .fieldref 8 18), (0, .nameAndType 19 20), (0, u "EMPTY"), (0, u "Ljava/util/OptionalLong;"), (28, u "empty"), (46, u "()Ljava/util/OptionalLong;"), (2, u "()Z")] 38

def k24m0 : Method := { name := "<init>", desc := "()V", sig := { parameters := [], returnType := none }, accessFlags := 2, code := none }
def k24c1 : Code := { maxStack := 1, maxLocals := 0, code := jdk_2650_method_2_code, exceptionTable := #[], attributes := #[] }
def k24m1 : Method := { name := "empty", desc := "()Ljava/util/OptionalLong;", sig := { parameters := [], returnType := some (.object "java/util/OptionalLong") }, accessFlags := 9, code := some k24c1 }
def k24c2 : Code := { maxStack := 1, maxLocals := 1, code := jdk_2650_method_6_code, exceptionTable := #[], attributes := #[] }
def k24m2 : Method := { name := "isPresent", desc := "()Z", sig := { parameters := [], returnType := some .boolean }, accessFlags := 1, code := some k24c2 }
/-- java/util/OptionalLong -/
def k24 : Class := { plain "java/util/OptionalLong" (some 0) with
  accessFlags := 49
  interfaces := #[]
  cf := some (fileOf pool24 8 #[] #[{ accessFlags := 2, nameIndex := 5, descriptorIndex := 6, attributes := #[] }, { accessFlags := 9, nameIndex := 49, descriptorIndex := 96, attributes := #[] }, { accessFlags := 1, nameIndex := 11, descriptorIndex := 99, attributes := #[] }] 49 2 #[] #[{ accessFlags := 26, nameIndex := 19, descriptorIndex := 20, attributes := #[] }, { accessFlags := 18, nameIndex := 11, descriptorIndex := 12, attributes := #[] }, { accessFlags := 18, nameIndex := 15, descriptorIndex := 16, attributes := #[] }])
  fields := #[{ name := "EMPTY", type := (.object "java/util/OptionalLong"), accessFlags := 26, slot := 0, constantValue := 0 }, { name := "isPresent", type := .boolean, accessFlags := 18, slot := 0, constantValue := 0 }, { name := "value", type := .long, accessFlags := 18, slot := 1, constantValue := 0 }]
  methods := #[k24m0, k24m1, k24m2]
  instanceTypes := #[.boolean, .long]
  staticTypes := #[(.object "java/util/OptionalLong")]
  resolved := Array.replicate 138 none
  statics := some 3 }

def pool25 : Array CpInfo := pool [(1, .class_ 2), (0, u "java/lang/String"), (1, .class_ 6), (1, u "java/lang/Object"), (0, u "<init>"), (0, u "()V"), (0, .methodref 1 10), (0, .nameAndType 11 12), (0, u "checkIndex"), (0, u "(II)V"), (1, .class_ 16), (1, u "java/lang/StringLatin1"), (36, u "([BI)C"), (67, u "$assertionsDisabled"), (0, u "Z"), (98, .class_ 223), (1, u "java/lang/StringLatin1$LinesSpliterator"), (28, u "charAt"), (137, .class_ 391), (0, u "java/lang/StringLatin1$CharsSpliterator")] 3

def k25m0 : Method := { name := "<init>", desc := "()V", sig := { parameters := [], returnType := none }, accessFlags := 0, code := none }
def k25c1 : Code := { maxStack := 2, maxLocals := 2, code := jdk_43_method_2_code, exceptionTable := #[], attributes := #[] }
def k25m1 : Method := { name := "charAt", desc := "([BI)C", sig := { parameters := [(.array .byte), .int], returnType := some .char }, accessFlags := 9, code := some k25c1 }
/-- java/lang/StringLatin1 -/
def k25 : Class := { plain "java/lang/StringLatin1" (some 0) with
  accessFlags := 48
  interfaces := #[]
  cf := some (fileOf pool25 14 #[.nestMembers #[390, 221]] #[{ accessFlags := 0, nameIndex := 7, descriptorIndex := 8, attributes := #[] }, { accessFlags := 9, nameIndex := 252, descriptorIndex := 53, attributes := #[] }] 48 4 #[] #[{ accessFlags := 4120, nameIndex := 121, descriptorIndex := 122, attributes := #[] }])
  fields := #[{ name := "$assertionsDisabled", type := .boolean, accessFlags := 4120, slot := 0, constantValue := 0 }]
  methods := #[k25m0, k25m1]
  instanceTypes := #[]
  staticTypes := #[.boolean]
  resolved := Array.replicate 395 none
  statics := none }

def pool26 : Array CpInfo := pool [(2, .class_ 4), (1, u "java/lang/Object"), (0, u "<init>"), (0, u "()V"), (17, .class_ 26), (1, u "jdk/internal/util/Preconditions"), (6, u "checkIndex"), (21, .class_ 56), (0, u "jdk/internal/util/Preconditions$4"), (57, .class_ 115), (0, u "jdk/internal/util/Preconditions$1"), (7, u "SIOOBE_FORMATTER"), (0, u "Ljava/util/function/BiFunction;"), (0, .class_ 126), (0, u "jdk/internal/util/Preconditions$2"), (3, u "AIOOBE_FORMATTER"), (0, .class_ 132), (0, u "jdk/internal/util/Preconditions$3"), (3, u "IOOBE_FORMATTER"), (41, u "(IILjava/util/function/BiFunction;)I")] 15

def k26m0 : Method := { name := "<init>", desc := "()V", sig := { parameters := [], returnType := none }, accessFlags := 1, code := none }
def k26c1 : Code := { maxStack := 3, maxLocals := 3, code := jdk_41_method_11_code, exceptionTable := #[], attributes := #[] }
def k26m1 : Method := { name := "checkIndex", desc := "(IILjava/util/function/BiFunction;)I", sig := { parameters := [.int, .int, (.object "java/util/function/BiFunction")], returnType := some .int }, accessFlags := 9, code := some k26c1 }
/-- jdk/internal/util/Preconditions -/
def k26 : Class := { plain "jdk/internal/util/Preconditions" (some 0) with
  accessFlags := 33
  interfaces := #[]
  cf := some (fileOf pool26 24 #[.nestMembers #[55, 131, 125, 114]] #[{ accessFlags := 1, nameIndex := 5, descriptorIndex := 6, attributes := #[] }, { accessFlags := 9, nameIndex := 33, descriptorIndex := 178, attributes := #[] }] 33 2 #[] #[{ accessFlags := 25, nameIndex := 123, descriptorIndex := 124, attributes := #[] }, { accessFlags := 25, nameIndex := 130, descriptorIndex := 124, attributes := #[] }, { accessFlags := 25, nameIndex := 136, descriptorIndex := 124, attributes := #[] }])
  fields := #[{ name := "SIOOBE_FORMATTER", type := (.object "java/util/function/BiFunction"), accessFlags := 25, slot := 0, constantValue := 0 }, { name := "AIOOBE_FORMATTER", type := (.object "java/util/function/BiFunction"), accessFlags := 25, slot := 1, constantValue := 0 }, { name := "IOOBE_FORMATTER", type := (.object "java/util/function/BiFunction"), accessFlags := 25, slot := 2, constantValue := 0 }]
  methods := #[k26m0, k26m1]
  instanceTypes := #[]
  staticTypes := #[(.object "java/util/function/BiFunction"), (.object "java/util/function/BiFunction"), (.object "java/util/function/BiFunction")]
  resolved := Array.replicate 194 none
  statics := some 4 }

def pool27 : Array CpInfo := pool [(6, .class_ 8), (1, u "java/lang/Object"), (0, u "<init>"), (0, u "()V"), (1, .class_ 14), (1, u "java/lang/StringUTF16"), (31, u "$assertionsDisabled"), (0, u "Z"), (13, u "HI_BYTE_SHIFT"), (0, u "I"), (2, u "LO_BYTE_SHIFT"), (49, .methodref 12 116), (0, .nameAndType 117 118), (0, u "compress"), (0, u "([CI[BII)I"), (3, u "([CII)[B"), (138, u "coderFromArrayLen"), (0, u "([BI)B"), (106, .class_ 371), (1, u "java/lang/StringUTF16$LinesSpliterator"), (58, u "MAX_LENGTH"), (196, .class_ 628), (0, u "java/lang/StringUTF16$CodePointsSpliterator"), (0, .class_ 630), (0, u "java/lang/StringUTF16$CharsSpliterator")] 4

def k27m0 : Method := { name := "<init>", desc := "()V", sig := { parameters := [], returnType := none }, accessFlags := 0, code := none }
def k27c1 : Code := { maxStack := 2, maxLocals := 2, code := jdk_52_method_15_code, exceptionTable := #[], attributes := #[] }
def k27m1 : Method := { name := "coderFromArrayLen", desc := "([BI)B", sig := { parameters := [(.array .byte), .int], returnType := some .byte }, accessFlags := 8, code := some k27c1 }
def k27c2 : Code := { maxStack := 5, maxLocals := 6, code := jdk_52_method_16_code, exceptionTable := #[], attributes := #[] }
def k27m2 : Method := { name := "compress", desc := "([CII)[B", sig := { parameters := [(.array .char), .int, .int], returnType := some (.array .byte) }, accessFlags := 9, code := some k27c2 }
def k27c3 : Code := { maxStack := 3, maxLocals := 7, code := jdk_52_method_21_code, exceptionTable := #[], attributes := #[] }
def k27m3 : Method := { name := "compress", desc := "([CI[BII)I", sig := { parameters := [(.array .char), .int, (.array .byte), .int, .int], returnType := some .int }, accessFlags := 9, code := some k27c3 }
/-- java/lang/StringUTF16 -/
def k27 : Class := { plain "java/lang/StringUTF16" (some 0) with
  accessFlags := 48
  interfaces := #[]
  cf := some (fileOf pool27 12 #[.nestMembers #[627, 629, 369]] #[{ accessFlags := 0, nameIndex := 9, descriptorIndex := 10, attributes := #[] }, { accessFlags := 8, nameIndex := 261, descriptorIndex := 262, attributes := #[] }, { accessFlags := 9, nameIndex := 117, descriptorIndex := 122, attributes := #[] }, { accessFlags := 9, nameIndex := 117, descriptorIndex := 118, attributes := #[] }] 48 6 #[] #[{ accessFlags := 26, nameIndex := 61, descriptorIndex := 62, attributes := #[] }, { accessFlags := 26, nameIndex := 65, descriptorIndex := 62, attributes := #[] }, { accessFlags := 24, nameIndex := 430, descriptorIndex := 62, attributes := #[] }, { accessFlags := 4120, nameIndex := 46, descriptorIndex := 47, attributes := #[] }])
  fields := #[{ name := "HI_BYTE_SHIFT", type := .int, accessFlags := 26, slot := 0, constantValue := 0 }, { name := "LO_BYTE_SHIFT", type := .int, accessFlags := 26, slot := 1, constantValue := 0 }, { name := "MAX_LENGTH", type := .int, accessFlags := 24, slot := 2, constantValue := 0 }, { name := "$assertionsDisabled", type := .boolean, accessFlags := 4120, slot := 3, constantValue := 0 }]
  methods := #[k27m0, k27m1, k27m2, k27m3]
  instanceTypes := #[]
  staticTypes := #[.int, .int, .int, .boolean]
  resolved := Array.replicate 635 none
  statics := none }

def pool28 : Array CpInfo := pool [(1, .class_ 2), (0, u "java/lang/Cloneable"), (0, .class_ 4), (0, u "java/lang/Object")] 2

/-- java/lang/Cloneable -/
def k28 : Class := { plain "java/lang/Cloneable" (some 0) with
  accessFlags := 1537
  interfaces := #[]
  cf := some (fileOf pool28 1 #[] #[] 1537 3 #[] #[])
  fields := #[]
  methods := #[]
  instanceTypes := #[]
  staticTypes := #[]
  resolved := Array.replicate 7 none
  statics := none }

def pool29 : Array CpInfo := pool [(2, .class_ 4), (1, u "java/lang/Object"), (0, u "<init>"), (0, u "()V"), (12, .class_ 20), (0, u "java/util/Collections"), (63, u "r"), (0, u "Ljava/util/Random;"), (80, .class_ 167), (0, u "java/util/Collections$UnmodifiableCollection"), (6, .class_ 175), (0, u "java/util/Collections$UnmodifiableSequencedCollection"), (6, .class_ 183), (0, u "java/util/Collections$UnmodifiableSet"), (6, .class_ 191), (0, u "java/util/Collections$UnmodifiableSequencedSet"), (6, .class_ 199), (0, u "java/util/Collections$UnmodifiableSortedSet"), (6, .class_ 207), (0, u "java/util/Collections$UnmodifiableNavigableSet"), (4, .class_ 213), (0, u "java/util/Collections$UnmodifiableList"), (1, .class_ 216), (0, u "java/util/Collections$UnmodifiableRandomAccessList"), (6, .class_ 224), (0, u "java/util/Collections$UnmodifiableMap"), (6, .class_ 232), (0, u "java/util/Collections$UnmodifiableSequencedMap"), (4, .class_ 238), (0, u "java/util/Collections$UnmodifiableSortedMap"), (6, .class_ 246), (0, u "java/util/Collections$UnmodifiableNavigableMap"), (3, .class_ 251), (0, u "java/util/Collections$SynchronizedCollection"), (4, .class_ 257), (0, u "java/util/Collections$SynchronizedSet"), (4, .class_ 263), (0, u "java/util/Collections$SynchronizedSortedSet"), (1, .class_ 266), (0, u "java/util/Collections$SynchronizedNavigableSet"), (1, .class_ 269), (0, u "java/util/Collections$SynchronizedRandomAccessList"), (1, .class_ 272), (0, u "java/util/Collections$SynchronizedList"), (5, .class_ 279), (0, u "java/util/Collections$SynchronizedMap"), (1, .class_ 282), (0, u "java/util/Collections$SynchronizedSortedMap"), (1, .class_ 285), (0, u "java/util/Collections$SynchronizedNavigableMap"), (1, .class_ 288), (0, u "java/util/Collections$CheckedCollection"), (11, .class_ 301), (0, u "java/util/Collections$CheckedQueue"), (3, .class_ 306), (0, u "java/util/Collections$CheckedSet"), (3, .class_ 311), (0, u "java/util/Collections$CheckedSortedSet"), (3, .class_ 316), (0, u "java/util/Collections$CheckedNavigableSet"), (3, .class_ 321), (0, u "java/util/Collections$CheckedRandomAccessList"), (3, .class_ 326), (0, u "java/util/Collections$CheckedList"), (1, .class_ 329), (0, u "java/util/Collections$CheckedMap"), (3, .class_ 334), (0, u "java/util/Collections$CheckedSortedMap"), (3, .class_ 339), (0, u "java/util/Collections$CheckedNavigableMap"), (4, .class_ 346), (1, u "java/util/Collections$EmptyIterator"), (3, .class_ 352), (1, u "java/util/Collections$EmptyListIterator"), (2, .class_ 357), (1, u "java/util/Collections$EmptyEnumeration"), (4, u "EMPTY_SET"), (0, u "Ljava/util/Set;"), (6, u "EMPTY_LIST"), (0, u "Ljava/util/List;"), (2, u "EMPTY_MAP"), (0, u "Ljava/util/Map;"), (4, .class_ 381), (0, u "java/util/Collections$SingletonSet"), (2, .class_ 385), (0, u "java/util/Collections$1"), (1, .class_ 388), (0, u "java/util/Collections$2"), (1, .class_ 391), (0, u "java/util/Collections$SingletonList"), (1, .class_ 394), (0, u "java/util/Collections$SingletonMap"), (22, .class_ 418), (0, u "java/util/Collections$CopiesList"), (4, .class_ 425), (1, u "java/util/Collections$ReverseComparator"), (8, .class_ 435), (0, u "java/util/Collections$ReverseComparator2"), (6, .class_ 443), (0, u "java/util/Collections$3"), (25, .class_ 470), (0, u "java/util/Collections$SetFromMap"), (2, .class_ 474), (0, u "java/util/Collections$SequencedSetFromMap"), (3, .class_ 479), (0, u "java/util/Collections$AsLIFOQueue"), (11, .class_ 492), (0, u "java/util/Collections$EmptySet"), (1, .class_ 495), (0, u "java/util/Collections$EmptyList"), (1, .class_ 498), (0, u "java/util/Collections$EmptyMap"), (1, u "BINARYSEARCH_THRESHOLD"), (0, u "I"), (2, u "REVERSE_THRESHOLD"), (1, u "SHUFFLE_THRESHOLD"), (1, u "FILL_THRESHOLD"), (1, u "ROTATE_THRESHOLD"), (1, u "COPY_THRESHOLD"), (1, u "REPLACEALL_THRESHOLD"), (1, u "INDEXOFSUBLIST_THRESHOLD"), (333, .class_ 851), (0, u "java/util/Collections$CheckedMap$CheckedEntrySet"), (0, .class_ 853), (0, u "java/util/Collections$CheckedMap$CheckedEntrySet$CheckedEntry"), (0, .class_ 855), (0, u "java/util/Collections$CheckedMap$CheckedEntrySet$1"), (0, .class_ 857), (0, u "java/util/Collections$CheckedList$1"), (0, .class_ 859), (0, u "java/util/Collections$CheckedCollection$1"), (0, .class_ 861), (0, u "java/util/Collections$UnmodifiableNavigableMap$EmptyNavigableMap"), (0, .class_ 863), (0, u "java/util/Collections$UnmodifiableMap$UnmodifiableEntrySet"), (0, .class_ 865), (0, u "java/util/Collections$UnmodifiableMap$UnmodifiableEntrySet$UnmodifiableEntry"), (0, .class_ 867), (0, u "java/util/Collections$UnmodifiableMap$UnmodifiableEntrySet$UnmodifiableEntrySetSpliterator"), (0, .class_ 869), (0, u "java/util/Collections$UnmodifiableMap$UnmodifiableEntrySet$1"), (0, .class_ 871), (0, u "java/util/Collections$UnmodifiableList$1"), (0, .class_ 873), (0, u "java/util/Collections$UnmodifiableNavigableSet$EmptyNavigableSet"), (0, .class_ 875), (0, u "java/util/Collections$UnmodifiableCollection$1")] 57

def k29m0 : Method := { name := "<init>", desc := "()V", sig := { parameters := [], returnType := none }, accessFlags := 2, code := none }
/-- java/util/Collections -/
def k29 : Class := { plain "java/util/Collections" (some 0) with
  accessFlags := 33
  interfaces := #[]
  cf := some (fileOf pool29 19 #[.nestMembers #[478, 473, 469, 434, 423, 417, 393, 390, 380, 497, 494, 491, 355, 350, 344, 338, 333, 328, 850, 852, 854, 320, 325, 856, 315, 310, 305, 300, 287, 858, 284, 281, 278, 268, 271, 265, 262, 256, 250, 245, 860, 237, 231, 223, 862, 864, 866, 868, 215, 212, 870, 206, 872, 198, 190, 182, 174, 166, 874, 442, 387, 384]] #[{ accessFlags := 2, nameIndex := 5, descriptorIndex := 6, attributes := #[] }] 33 2 #[] #[{ accessFlags := 26, nameIndex := 500, descriptorIndex := 501, attributes := #[] }, { accessFlags := 26, nameIndex := 504, descriptorIndex := 501, attributes := #[] }, { accessFlags := 26, nameIndex := 506, descriptorIndex := 501, attributes := #[] }, { accessFlags := 26, nameIndex := 508, descriptorIndex := 501, attributes := #[] }, { accessFlags := 26, nameIndex := 510, descriptorIndex := 501, attributes := #[] }, { accessFlags := 26, nameIndex := 512, descriptorIndex := 501, attributes := #[] }, { accessFlags := 26, nameIndex := 514, descriptorIndex := 501, attributes := #[] }, { accessFlags := 26, nameIndex := 516, descriptorIndex := 501, attributes := #[] }, { accessFlags := 10, nameIndex := 84, descriptorIndex := 85, attributes := #[] }, { accessFlags := 25, nameIndex := 362, descriptorIndex := 363, attributes := #[] }, { accessFlags := 25, nameIndex := 370, descriptorIndex := 371, attributes := #[] }, { accessFlags := 25, nameIndex := 374, descriptorIndex := 375, attributes := #[] }])
  fields := #[{ name := "BINARYSEARCH_THRESHOLD", type := .int, accessFlags := 26, slot := 0, constantValue := 0 }, { name := "REVERSE_THRESHOLD", type := .int, accessFlags := 26, slot := 1, constantValue := 0 }, { name := "SHUFFLE_THRESHOLD", type := .int, accessFlags := 26, slot := 2, constantValue := 0 }, { name := "FILL_THRESHOLD", type := .int, accessFlags := 26, slot := 3, constantValue := 0 }, { name := "ROTATE_THRESHOLD", type := .int, accessFlags := 26, slot := 4, constantValue := 0 }, { name := "COPY_THRESHOLD", type := .int, accessFlags := 26, slot := 5, constantValue := 0 }, { name := "REPLACEALL_THRESHOLD", type := .int, accessFlags := 26, slot := 6, constantValue := 0 }, { name := "INDEXOFSUBLIST_THRESHOLD", type := .int, accessFlags := 26, slot := 7, constantValue := 0 }, { name := "r", type := (.object "java/util/Random"), accessFlags := 10, slot := 8, constantValue := 0 }, { name := "EMPTY_SET", type := (.object "java/util/Set"), accessFlags := 25, slot := 9, constantValue := 0 }, { name := "EMPTY_LIST", type := (.object "java/util/List"), accessFlags := 25, slot := 10, constantValue := 0 }, { name := "EMPTY_MAP", type := (.object "java/util/Map"), accessFlags := 25, slot := 11, constantValue := 0 }]
  methods := #[k29m0]
  instanceTypes := #[]
  staticTypes := #[.int, .int, .int, .int, .int, .int, .int, .int, (.object "java/util/Random"), (.object "java/util/Set"), (.object "java/util/List"), (.object "java/util/Map")]
  resolved := Array.replicate 933 none
  statics := some 5 }

def pool30 : Array CpInfo := pool [(8, .class_ 10), (1, u "java/lang/Iterable"), (24, .class_ 36), (0, u "java/lang/Object")] 25

/-- java/lang/Iterable -/
def k30 : Class := { plain "java/lang/Iterable" (some 0) with
  accessFlags := 1537
  interfaces := #[]
  cf := some (fileOf pool30 8 #[] #[] 1537 35 #[] #[])
  fields := #[]
  methods := #[]
  instanceTypes := #[]
  staticTypes := #[]
  resolved := Array.replicate 62 none
  statics := none }

def pool31 : Array CpInfo := pool [(10, .class_ 12), (1, u "java/util/Collection"), (47, .class_ 61), (0, u "java/lang/Object"), (0, .class_ 63), (0, u "java/lang/Iterable")] 51

/-- java/util/Collection -/
def k31 : Class := { plain "java/util/Collection" (some 0) with
  accessFlags := 1537
  interfaces := #[30]
  cf := some (fileOf pool31 10 #[] #[] 1537 60 #[62] #[])
  fields := #[]
  methods := #[]
  instanceTypes := #[]
  staticTypes := #[]
  resolved := Array.replicate 115 none
  statics := none }

def pool32 : Array CpInfo := pool [(2, .class_ 4), (1, u "java/lang/Object"), (0, u "<init>"), (0, u "()V"), (1, .class_ 10), (1, u "java/util/AbstractCollection"), (66, .class_ 78), (0, u "java/util/Collection")] 81

def k32m0 : Method := { name := "<init>", desc := "()V", sig := { parameters := [], returnType := none }, accessFlags := 4, code := none }
/-- java/util/AbstractCollection -/
def k32 : Class := { plain "java/util/AbstractCollection" (some 0) with
  accessFlags := 1057
  interfaces := #[31]
  cf := some (fileOf pool32 8 #[] #[{ accessFlags := 4, nameIndex := 5, descriptorIndex := 6, attributes := #[] }] 1057 2 #[77] #[])
  fields := #[]
  methods := #[k32m0]
  instanceTypes := #[]
  staticTypes := #[]
  resolved := Array.replicate 160 none
  statics := none }

def pool33 : Array CpInfo := pool [(8, .class_ 10), (1, u "java/util/SequencedCollection"), (15, .class_ 27), (0, u "java/lang/Object"), (0, .class_ 29), (0, u "java/util/Collection")] 27

/-- java/util/SequencedCollection -/
def k33 : Class := { plain "java/util/SequencedCollection" (some 0) with
  accessFlags := 1537
  interfaces := #[31]
  cf := some (fileOf pool33 8 #[] #[] 1537 26 #[28] #[])
  fields := #[]
  methods := #[]
  instanceTypes := #[]
  staticTypes := #[]
  resolved := Array.replicate 57 none
  statics := none }

def pool34 : Array CpInfo := pool [(8, .class_ 10), (1, u "java/util/List"), (92, .class_ 104), (0, u "java/lang/Object"), (15, .class_ 121), (0, u "java/util/SequencedCollection")] 129

/-- java/util/List -/
def k34 : Class := { plain "java/util/List" (some 0) with
  accessFlags := 1537
  interfaces := #[33]
  cf := some (fileOf pool34 8 #[] #[] 1537 103 #[120] #[])
  fields := #[]
  methods := #[]
  instanceTypes := #[]
  staticTypes := #[]
  resolved := Array.replicate 251 none
  statics := none }

def pool35 : Array CpInfo := pool [(2, .class_ 4), (1, u "java/util/AbstractCollection"), (0, u "<init>"), (0, u "()V"), (1, .class_ 10), (1, u "java/util/AbstractList"), (0, u "modCount"), (0, u "I"), (64, .class_ 78), (0, u "java/util/AbstractList$Itr"), (3, .class_ 83), (0, u "java/util/AbstractList$ListItr"), (9, .class_ 94), (0, u "java/util/AbstractList$RandomAccessSubList"), (3, .class_ 99), (0, u "java/util/AbstractList$SubList"), (33, .class_ 134), (0, u "java/util/List"), (73, .class_ 209), (0, u "java/util/AbstractList$SubList$1"), (0, .class_ 211), (0, u "java/util/AbstractList$RandomAccessSpliterator")] 6

def k35m0 : Method := { name := "<init>", desc := "()V", sig := { parameters := [], returnType := none }, accessFlags := 4, code := none }
/-- java/util/AbstractList -/
def k35 : Class := { plain "java/util/AbstractList" (some 32) with
  accessFlags := 1057
  interfaces := #[34]
  cf := some (fileOf pool35 8 #[.nestMembers #[93, 98, 208, 210, 82, 77]] #[{ accessFlags := 4, nameIndex := 5, descriptorIndex := 6, attributes := #[] }] 1057 2 #[133] #[{ accessFlags := 132, nameIndex := 11, descriptorIndex := 12, attributes := #[] }])
  fields := #[{ name := "modCount", type := .int, accessFlags := 132, slot := 0, constantValue := 0 }]
  methods := #[k35m0]
  instanceTypes := #[.int]
  staticTypes := #[]
  resolved := Array.replicate 218 none
  statics := none }

def pool36 : Array CpInfo := pool [(1, .class_ 2), (0, u "java/util/RandomAccess"), (0, .class_ 4), (0, u "java/lang/Object")] 2

/-- java/util/RandomAccess -/
def k36 : Class := { plain "java/util/RandomAccess" (some 0) with
  accessFlags := 1537
  interfaces := #[]
  cf := some (fileOf pool36 1 #[] #[] 1537 3 #[] #[])
  fields := #[]
  methods := #[]
  instanceTypes := #[]
  staticTypes := #[]
  resolved := Array.replicate 7 none
  statics := none }

def pool37 : Array CpInfo := pool [(2, .class_ 4), (1, u "java/util/AbstractList"), (0, u "<init>"), (0, u "()V"), (1, .class_ 10), (1, u "java/util/Collections"), (54, .class_ 66), (0, u "java/util/Collections$EmptyList"), (0, .class_ 68), (0, u "java/util/RandomAccess"), (0, .class_ 70), (0, u "java/io/Serializable"), (0, u "serialVersionUID"), (0, u "J")] 77

def k37m0 : Method := { name := "<init>", desc := "()V", sig := { parameters := [], returnType := none }, accessFlags := 2, code := none }
/-- java/util/Collections$EmptyList -/
def k37 : Class := { plain "java/util/Collections$EmptyList" (some 35) with
  accessFlags := 32
  interfaces := #[36, 2]
  cf := some (fileOf pool37 65 #[.nestHost 8] #[{ accessFlags := 2, nameIndex := 5, descriptorIndex := 6, attributes := #[] }] 32 2 #[67, 69] #[{ accessFlags := 26, nameIndex := 71, descriptorIndex := 72, attributes := #[] }])
  fields := #[{ name := "serialVersionUID", type := .long, accessFlags := 26, slot := 0, constantValue := 0 }]
  methods := #[k37m0]
  instanceTypes := #[.int]
  staticTypes := #[.long]
  resolved := Array.replicate 150 none
  statics := none }

def pool38 : Array CpInfo := pool [(2, .class_ 4), (1, u "java/lang/StackTraceElement"), (0, u "<init>"), (2, .class_ 10), (1, u "java/lang/Object"), (0, u "()V"), (2, u "format"), (0, u "B"), (2, u "classLoaderName"), (0, u "Ljava/lang/String;"), (2, u "moduleName"), (2, u "moduleVersion"), (12, u "declaringClass"), (4, u "methodName"), (2, u "fileName"), (2, u "lineNumber"), (0, u "I"), (65, u "declaringClassObject"), (0, u "Ljava/lang/Class;"), (33, .class_ 153), (1, u "java/lang/StackTraceElement$HashedModules"), (17, .class_ 172), (0, u "java/io/Serializable"), (0, u "NATIVE_METHOD"), (1, u "UNKNOWN_SOURCE"), (2, u "BUILTIN_CLASS_LOADER"), (1, u "JDK_NON_UPGRADEABLE_MODULE"), (1, u "serialVersionUID"), (0, u "J")] 51

def k38m0 : Method := { name := "<init>", desc := "()V", sig := { parameters := [], returnType := none }, accessFlags := 2, code := none }
/-- java/lang/StackTraceElement -/
def k38 : Class := { plain "java/lang/StackTraceElement" (some 0) with
  accessFlags := 49
  interfaces := #[2]
  cf := some (fileOf pool38 2 #[.nestMembers #[151]] #[{ accessFlags := 2, nameIndex := 5, descriptorIndex := 11, attributes := #[] }] 49 8 #[171] #[{ accessFlags := 26, nameIndex := 173, descriptorIndex := 19, attributes := #[] }, { accessFlags := 26, nameIndex := 175, descriptorIndex := 19, attributes := #[] }, { accessFlags := 130, nameIndex := 116, descriptorIndex := 117, attributes := #[] }, { accessFlags := 2, nameIndex := 18, descriptorIndex := 19, attributes := #[] }, { accessFlags := 2, nameIndex := 22, descriptorIndex := 19, attributes := #[] }, { accessFlags := 2, nameIndex := 25, descriptorIndex := 19, attributes := #[] }, { accessFlags := 2, nameIndex := 38, descriptorIndex := 19, attributes := #[] }, { accessFlags := 2, nameIndex := 43, descriptorIndex := 19, attributes := #[] }, { accessFlags := 2, nameIndex := 46, descriptorIndex := 19, attributes := #[] }, { accessFlags := 2, nameIndex := 49, descriptorIndex := 50, attributes := #[] }, { accessFlags := 2, nameIndex := 14, descriptorIndex := 15, attributes := #[] }, { accessFlags := 26, nameIndex := 178, descriptorIndex := 15, attributes := #[] }, { accessFlags := 26, nameIndex := 180, descriptorIndex := 15, attributes := #[] }, { accessFlags := 26, nameIndex := 182, descriptorIndex := 183, attributes := #[] }])
  fields := #[{ name := "NATIVE_METHOD", type := (.object "java/lang/String"), accessFlags := 26, slot := 0, constantValue := 0 }, { name := "UNKNOWN_SOURCE", type := (.object "java/lang/String"), accessFlags := 26, slot := 1, constantValue := 0 }, { name := "declaringClassObject", type := (.object "java/lang/Class"), accessFlags := 130, slot := 0, constantValue := 0 }, { name := "classLoaderName", type := (.object "java/lang/String"), accessFlags := 2, slot := 1, constantValue := 0 }, { name := "moduleName", type := (.object "java/lang/String"), accessFlags := 2, slot := 2, constantValue := 0 }, { name := "moduleVersion", type := (.object "java/lang/String"), accessFlags := 2, slot := 3, constantValue := 0 }, { name := "declaringClass", type := (.object "java/lang/String"), accessFlags := 2, slot := 4, constantValue := 0 }, { name := "methodName", type := (.object "java/lang/String"), accessFlags := 2, slot := 5, constantValue := 0 }, { name := "fileName", type := (.object "java/lang/String"), accessFlags := 2, slot := 6, constantValue := 0 }, { name := "lineNumber", type := .int, accessFlags := 2, slot := 7, constantValue := 0 }, { name := "format", type := .byte, accessFlags := 2, slot := 8, constantValue := 0 }, { name := "BUILTIN_CLASS_LOADER", type := .byte, accessFlags := 26, slot := 2, constantValue := 0 }, { name := "JDK_NON_UPGRADEABLE_MODULE", type := .byte, accessFlags := 26, slot := 3, constantValue := 0 }, { name := "serialVersionUID", type := .long, accessFlags := 26, slot := 4, constantValue := 0 }]
  methods := #[k38m0]
  instanceTypes := #[(.object "java/lang/Class"), (.object "java/lang/String"), (.object "java/lang/String"), (.object "java/lang/String"), (.object "java/lang/String"), (.object "java/lang/String"), (.object "java/lang/String"), .int, .byte]
  staticTypes := #[(.object "java/lang/String"), (.object "java/lang/String"), .byte, .byte, .long]
  resolved := Array.replicate 235 none
  statics := none }

/-- the primitive byte -/
def k39 : Class := { plain "byte" none with kind := .primitive 'B', accessFlags := 0x411 }
/-- [B -/
def k40 : Class := { plain "[B" (some 0) with kind := .array 39 .byte, interfaces := #[28, 2], accessFlags := 1041 }

/-- the primitive char -/
def k41 : Class := { plain "char" none with kind := .primitive 'C', accessFlags := 0x411 }
/-- [C -/
def k42 : Class := { plain "[C" (some 0) with kind := .array 41 .char, interfaces := #[28, 2], accessFlags := 1041 }

/-- the primitive int -/
def k43 : Class := { plain "int" none with kind := .primitive 'I', accessFlags := 0x411 }
/-- [I -/
def k44 : Class := { plain "[I" (some 0) with kind := .array 43 .int, interfaces := #[28, 2], accessFlags := 1041 }

/-- [Ljava/lang/Object; -/
def k45 : Class := { plain "[Ljava/lang/Object;" (some 0) with kind := .array 0 (.object "java/lang/Object"), interfaces := #[28, 2], accessFlags := 1041 }

/-- [Ljava/lang/StackTraceElement; -/
def k46 : Class := { plain "[Ljava/lang/StackTraceElement;" (some 0) with kind := .array 38 (.object "java/lang/StackTraceElement"), interfaces := #[28, 2], accessFlags := 1041 }

/-- [Ljava/lang/Throwable; -/
def k47 : Class := { plain "[Ljava/lang/Throwable;" (some 0) with kind := .array 8 (.object "java/lang/Throwable"), interfaces := #[28, 2], accessFlags := 1041 }

def heap : Heap := #[{ cls := 7, slots := #[.long 0, .int 1, .null, .int 0, .null, .int 0, .int 0], vm := .statics 7 },
  { cls := 8, slots := #[.long 0, .ref 8, .ref 9, .null, .null, .null, .null, .ref 10, .int 1], vm := .statics 8 },
  { cls := 23, slots := #[.int 0, .int 0, .null, .null, .ref 7, .ref 6, .int 0, .int 0, .long 0], vm := .statics 23 },
  { cls := 24, slots := #[.ref 11], vm := .statics 24 },
  { cls := 26, slots := #[.null, .null, .null], vm := .statics 26 },
  { cls := 29, slots := #[.int 0, .int 0, .int 0, .int 0, .int 0, .int 0, .int 0, .int 0, .null, .null, .ref 9, .null], vm := .statics 29 },
  { cls := 40, slots := #[.int 48, .int 49, .int 50, .int 51, .int 52, .int 53, .int 54, .int 55, .int 56, .int 57, .int 48, .int 49, .int 50, .int 51, .int 52, .int 53, .int 54, .int 55, .int 56, .int 57, .int 48, .int 49, .int 50, .int 51, .int 52, .int 53, .int 54, .int 55, .int 56, .int 57, .int 48, .int 49, .int 50, .int 51, .int 52, .int 53, .int 54, .int 55, .int 56, .int 57, .int 48, .int 49, .int 50, .int 51, .int 52, .int 53, .int 54, .int 55, .int 56, .int 57, .int 48, .int 49, .int 50, .int 51, .int 52, .int 53, .int 54, .int 55, .int 56, .int 57, .int 48, .int 49, .int 50, .int 51, .int 52, .int 53, .int 54, .int 55, .int 56, .int 57, .int 48, .int 49, .int 50, .int 51, .int 52, .int 53, .int 54, .int 55, .int 56, .int 57, .int 48, .int 49, .int 50, .int 51, .int 52, .int 53, .int 54, .int 55, .int 56, .int 57, .int 48, .int 49, .int 50, .int 51, .int 52, .int 53, .int 54, .int 55, .int 56, .int 57], vm := .none },
  { cls := 40, slots := #[.int 48, .int 48, .int 48, .int 48, .int 48, .int 48, .int 48, .int 48, .int 48, .int 48, .int 49, .int 49, .int 49, .int 49, .int 49, .int 49, .int 49, .int 49, .int 49, .int 49, .int 50, .int 50, .int 50, .int 50, .int 50, .int 50, .int 50, .int 50, .int 50, .int 50, .int 51, .int 51, .int 51, .int 51, .int 51, .int 51, .int 51, .int 51, .int 51, .int 51, .int 52, .int 52, .int 52, .int 52, .int 52, .int 52, .int 52, .int 52, .int 52, .int 52, .int 53, .int 53, .int 53, .int 53, .int 53, .int 53, .int 53, .int 53, .int 53, .int 53, .int 54, .int 54, .int 54, .int 54, .int 54, .int 54, .int 54, .int 54, .int 54, .int 54, .int 55, .int 55, .int 55, .int 55, .int 55, .int 55, .int 55, .int 55, .int 55, .int 55, .int 56, .int 56, .int 56, .int 56, .int 56, .int 56, .int 56, .int 56, .int 56, .int 56, .int 57, .int 57, .int 57, .int 57, .int 57, .int 57, .int 57, .int 57, .int 57, .int 57], vm := .none },
  { cls := 46, slots := #[], vm := .none },
  { cls := 37, slots := #[.int 0], vm := .none },
  { cls := 47, slots := #[], vm := .none },
  { cls := 24, slots := #[.int 0, .long 0], vm := .none }]
def classes : Array Class := #[k0, k1, k2, k3, k4, k5, k6, k7, k8, k9, k10, k11, k12, k13, k14, k15, k16, k17, k18, k19, k20, k21, k22, k23, k24, k25, k26, k27, k28, k29, k30, k31, k32, k33, k34, k35, k36, k37, k38, k39, k40, k41, k42, k43, k44, k45, k46, k47]
def interned : List (Array UInt16 × Addr) := []
def slotsUsed : Nat := 244
def theMethod : MethodId := ⟨1, 1⟩
def args0 : Array Value := #[.int 0, .int 3, .long 1]
def aboutOver (below : List Frame) : State where
  vm := { classes := classes, interned := interned.toArray }
  heap := heap
  slotsUsed := slotsUsed
  threads := #[{ frames := .invoking theMethod args0 :: below }]
def below0 : List Frame := [.native { method := ⟨0, 0⟩, args := #[] }]
def about1 : State := aboutOver below0
def p0 : Program := .bare "" "" ""
def e0 : Env := launch0.env 0 0 0
theorem w_frames : about1.frames = Frame.invoking theMethod args0 :: below0 := rfl
set_option maxRecDepth 65536 in
theorem w_args : argsFit about1.vm theMethod args0 = true := by decide +kernel
set_option maxRecDepth 65536 in
theorem w_heap : heapFits about1 = true := by decide +kernel
set_option maxRecDepth 65536 in
theorem w_runnable : about1.curStatus? = some .runnable := by decide +kernel
set_option maxRecDepth 65536 in
theorem w_alone : about1.alone = true := by decide +kernel
set_option maxRecDepth 65536 in
theorem w_named : about1.methodNamed? x = some theMethod := by decide +kernel
set_option maxRecDepth 65536 in
theorem w_hears : about1.hears theMethod below0 = true := by decide +kernel
set_option maxRecDepth 65536 in
theorem w_ripe : about1.ripe theMethod args0 below0 = true := by decide +kernel
theorem w_running : about1.status = .running := rfl
set_option maxRecDepth 65536 in
theorem w_room : about1.hasRoom e0.platform room_1 = true :=
  launch0.hasRoom_least _ room_1 (by decide +kernel) (by decide +kernel) (by decide +kernel) (by decide +kernel) (by decide +kernel) (by decide +kernel)
theorem allAtoms_all (ts : List Jvm.Cond) (a : Array Jvm.Value) (st : Jvm.State) : (allAtoms ts).before a st = ts.all (fun c => c.before a st) := by
  induction ts with
  | nil => rfl
  | cons c t ih =>
    show (Jvm.Cond.and c (allAtoms t)).before a st = _
    rw [Jvm.Cond.before_and, ih, List.all_cons]
def words1 : List Jvm.Cond := Jvm.Cond.code x code maxLocals ret :: tables_1
/-- a 'code' word, met by the world's own term for the bytes: nothing is compared byte by byte -/
theorem code_word {y : MethodName} {bytes : ByteArray} {mx : Nat} {rt : Option FieldType} {a : Array Value} {s : State} {m : MethodId} {meth : Method} {c : Code} (h1 : s.methodNamed? y = some m) (h2 : s.vm.method? m = some meth) (h3 : meth.code = some c) (h4 : c.code = bytes)
    (h5 : (c.maxLocals == mx && c.exceptionTable.isEmpty && decide (c.maxStack ≤ mostOperands) && decide (meth.sig.returnType = rt) && !meth.locks && decide (parseMethodDescriptor y.desc = some meth.sig)) = true) : (Jvm.Cond.code y bytes mx rt).before a s = true := by
  simp only [Bool.and_eq_true, beq_iff_eq, Bool.not_eq_true', decide_eq_true_eq] at h5
  obtain ⟨⟨⟨⟨⟨g1, g2⟩, g3⟩, g4⟩, g5⟩, g6⟩ := h5
  simp [Cond.before, Cond.holds, Cond.value, h1, h2, h3, h4, g1, g2, g3, g4, g5, g6]
def isCode : Jvm.Cond → Bool
  | .code _ _ _ _ => true
  | _ => false
theorem all_split {L : List Jvm.Cond} {P : Jvm.Cond → Bool} (h1 : L.all (fun c => isCode c || P c) = true) (h2 : ∀ c ∈ L.filter isCode, P c = true) : L.all P = true := by
  refine List.all_eq_true.mpr fun c hc => ?_
  have h := List.all_eq_true.mp h1 c hc
  rcases Bool.eq_false_or_eq_true (isCode c) with hi | hi
  · exact h2 c (List.mem_filter.mpr ⟨hc, hi⟩)
  · simpa [hi] using h
set_option maxRecDepth 65536 in
theorem w_c0 : (Jvm.Cond.code x code maxLocals ret).before args0 about1 = true := code_word (m := ⟨1, 1⟩) (meth := k1m1) (c := k1c1) (by decide +kernel) rfl rfl rfl (by decide +kernel)
set_option maxRecDepth 65536 in
theorem w_c1 : (Jvm.Cond.code ({ cls := "com/example/aggregate_lock/aggregatelock/outcome/VersionConflictExceptionNeverCreatedPinLaw", name := "mk", desc := "(I)Ljava/lang/String;" } : Jvm.MethodName) method_3_code (4 : Nat) (Option.some (Jvm.ClassFile.FieldType.object "java/lang/String"))).before args0 about1 = true := code_word (m := ⟨1, 2⟩) (meth := k1m2) (c := k1c2) (by decide +kernel) rfl rfl rfl (by decide +kernel)
set_option maxRecDepth 65536 in
theorem w_c2 : (Jvm.Cond.code ({ cls := "java/lang/String", name := "<init>", desc := "([C)V" } : Jvm.MethodName) jdk_42_method_3_code (2 : Nat) (Option.none : Option Jvm.ClassFile.FieldType)).before args0 about1 = true := code_word (m := ⟨7, 1⟩) (meth := k7m1) (c := k7c1) (by decide +kernel) rfl rfl rfl (by decide +kernel)
set_option maxRecDepth 65536 in
theorem w_c3 : (Jvm.Cond.code ({ cls := "java/lang/String", name := "<init>", desc := "([CIILjava/lang/Void;)V" } : Jvm.MethodName) jdk_42_method_149_code (6 : Nat) (Option.none : Option Jvm.ClassFile.FieldType)).before args0 about1 = true := code_word (m := ⟨7, 7⟩) (meth := k7m7) (c := k7c7) (by decide +kernel) rfl rfl rfl (by decide +kernel)
set_option maxRecDepth 65536 in
theorem w_c4 : (Jvm.Cond.code ({ cls := "java/lang/Object", name := "<init>", desc := "()V" } : Jvm.MethodName) object_method_1_code (1 : Nat) (Option.none : Option Jvm.ClassFile.FieldType)).before args0 about1 = true := code_word (m := ⟨0, 0⟩) (meth := k0m0) (c := k0c0) (by decide +kernel) rfl rfl rfl (by decide +kernel)
set_option maxRecDepth 65536 in
theorem w_c5 : (Jvm.Cond.code ({ cls := "com/example/aggregate_lock/aggregatelock/outcome/VersionConflictException", name := "neverCreated", desc := "(Ljava/lang/String;Ljava/lang/String;J)Lcom/example/aggregate_lock/aggregatelock/outcome/VersionConflictException;" } : Jvm.MethodName) prog_14_method_4_code (5 : Nat) (Option.some (Jvm.ClassFile.FieldType.object "com/example/aggregate_lock/aggregatelock/outcome/VersionConflictException"))).before args0 about1 = true := code_word (m := ⟨12, 1⟩) (meth := k12m1) (c := k12c1) (by decide +kernel) rfl rfl rfl (by decide +kernel)
set_option maxRecDepth 65536 in
theorem w_c6 : (Jvm.Cond.code ({ cls := "com/example/aggregate_lock/aggregatelock/outcome/AggregateLockException", name := "requireKey", desc := "(Ljava/lang/String;Ljava/lang/String;)V" } : Jvm.MethodName) prog_7_method_5_code (2 : Nat) (Option.none : Option Jvm.ClassFile.FieldType)).before args0 about1 = true := code_word (m := ⟨11, 1⟩) (meth := k11m1) (c := k11c1) (by decide +kernel) rfl rfl rfl (by decide +kernel)
set_option maxRecDepth 65536 in
theorem w_c7 : (Jvm.Cond.code ({ cls := "java/util/Objects", name := "requireNonNull", desc := "(Ljava/lang/Object;Ljava/lang/String;)Ljava/lang/Object;" } : Jvm.MethodName) jdk_31_method_11_code (2 : Nat) (Option.some (Jvm.ClassFile.FieldType.object "java/lang/Object"))).before args0 about1 = true := code_word (m := ⟨13, 1⟩) (meth := k13m1) (c := k13c1) (by decide +kernel) rfl rfl rfl (by decide +kernel)
set_option maxRecDepth 65536 in
theorem w_c8 : (Jvm.Cond.code ({ cls := "java/lang/StringBuilder", name := "<init>", desc := "()V" } : Jvm.MethodName) jdk_67_method_1_code (1 : Nat) (Option.none : Option Jvm.ClassFile.FieldType)).before args0 about1 = true := code_word (m := ⟨16, 0⟩) (meth := k16m0) (c := k16c0) (by decide +kernel) rfl rfl rfl (by decide +kernel)
set_option maxRecDepth 65536 in
theorem w_c9 : (Jvm.Cond.code ({ cls := "java/lang/AbstractStringBuilder", name := "<init>", desc := "(I)V" } : Jvm.MethodName) jdk_68_method_2_code (2 : Nat) (Option.none : Option Jvm.ClassFile.FieldType)).before args0 about1 = true := code_word (m := ⟨15, 1⟩) (meth := k15m1) (c := k15c1) (by decide +kernel) rfl rfl rfl (by decide +kernel)
set_option maxRecDepth 65536 in
theorem w_c10 : (Jvm.Cond.code ({ cls := "com/example/aggregate_lock/aggregatelock/outcome/AggregateLockException", name := "aggregate", desc := "(Ljava/lang/String;Ljava/lang/String;)Ljava/lang/String;" } : Jvm.MethodName) prog_7_method_6_code (2 : Nat) (Option.some (Jvm.ClassFile.FieldType.object "java/lang/String"))).before args0 about1 = true := code_word (m := ⟨11, 2⟩) (meth := k11m2) (c := k11c2) (by decide +kernel) rfl rfl rfl (by decide +kernel)
set_option maxRecDepth 65536 in
theorem w_c11 : (Jvm.Cond.code ({ cls := "java/lang/StringBuilder", name := "append", desc := "(Ljava/lang/String;)Ljava/lang/StringBuilder;" } : Jvm.MethodName) jdk_67_method_7_code (2 : Nat) (Option.some (Jvm.ClassFile.FieldType.object "java/lang/StringBuilder"))).before args0 about1 = true := code_word (m := ⟨16, 1⟩) (meth := k16m1) (c := k16c1) (by decide +kernel) rfl rfl rfl (by decide +kernel)
set_option maxRecDepth 65536 in
theorem w_c12 : (Jvm.Cond.code ({ cls := "java/lang/AbstractStringBuilder", name := "append", desc := "(Ljava/lang/String;)Ljava/lang/AbstractStringBuilder;" } : Jvm.MethodName) jdk_68_method_22_code (3 : Nat) (Option.some (Jvm.ClassFile.FieldType.object "java/lang/AbstractStringBuilder"))).before args0 about1 = true := code_word (m := ⟨15, 5⟩) (meth := k15m5) (c := k15c5) (by decide +kernel) rfl rfl rfl (by decide +kernel)
set_option maxRecDepth 65536 in
theorem w_c13 : (Jvm.Cond.code ({ cls := "java/lang/String", name := "length", desc := "()I" } : Jvm.MethodName) jdk_42_method_54_code (1 : Nat) (Option.some Jvm.ClassFile.FieldType.int)).before args0 about1 = true := code_word (m := ⟨7, 3⟩) (meth := k7m3) (c := k7c3) (by decide +kernel) rfl rfl rfl (by decide +kernel)
set_option maxRecDepth 65536 in
theorem w_c14 : (Jvm.Cond.code ({ cls := "java/lang/String", name := "coder", desc := "()B" } : Jvm.MethodName) jdk_42_method_152_code (1 : Nat) (Option.some Jvm.ClassFile.FieldType.byte)).before args0 about1 = true := code_word (m := ⟨7, 9⟩) (meth := k7m9) (c := k7c9) (by decide +kernel) rfl rfl rfl (by decide +kernel)
set_option maxRecDepth 65536 in
theorem w_c15 : (Jvm.Cond.code ({ cls := "java/lang/AbstractStringBuilder", name := "ensureCapacityInternal", desc := "(I)V" } : Jvm.MethodName) jdk_68_method_9_code (3 : Nat) (Option.none : Option Jvm.ClassFile.FieldType)).before args0 about1 = true := code_word (m := ⟨15, 3⟩) (meth := k15m3) (c := k15c3) (by decide +kernel) rfl rfl rfl (by decide +kernel)
set_option maxRecDepth 65536 in
theorem w_c16 : (Jvm.Cond.code ({ cls := "java/lang/AbstractStringBuilder", name := "newCapacity", desc := "(I)I" } : Jvm.MethodName) jdk_68_method_10_code (6 : Nat) (Option.some Jvm.ClassFile.FieldType.int)).before args0 about1 = true := code_word (m := ⟨15, 4⟩) (meth := k15m4) (c := k15c4) (by decide +kernel) rfl rfl rfl (by decide +kernel)
set_option maxRecDepth 65536 in
theorem w_c17 : (Jvm.Cond.code ({ cls := "jdk/internal/util/ArraysSupport", name := "newLength", desc := "(III)I" } : Jvm.MethodName) jdk_48_method_27_code (4 : Nat) (Option.some Jvm.ClassFile.FieldType.int)).before args0 about1 = true := code_word (m := ⟨17, 1⟩) (meth := k17m1) (c := k17c1) (by decide +kernel) rfl rfl rfl (by decide +kernel)
set_option maxRecDepth 65536 in
theorem w_c18 : (Jvm.Cond.code ({ cls := "java/lang/Math", name := "max", desc := "(II)I" } : Jvm.MethodName) jdk_29_method_65_code (2 : Nat) (Option.some Jvm.ClassFile.FieldType.int)).before args0 about1 = true := code_word (m := ⟨18, 1⟩) (meth := k18m1) (c := k18c1) (by decide +kernel) rfl rfl rfl (by decide +kernel)
set_option maxRecDepth 65536 in
theorem w_c19 : (Jvm.Cond.code ({ cls := "java/util/Arrays", name := "copyOf", desc := "([BI)[B" } : Jvm.MethodName) jdk_65_method_121_code (3 : Nat) (Option.some (Jvm.ClassFile.FieldType.array Jvm.ClassFile.FieldType.byte))).before args0 about1 = true := code_word (m := ⟨19, 1⟩) (meth := k19m1) (c := k19c1) (by decide +kernel) rfl rfl rfl (by decide +kernel)
set_option maxRecDepth 65536 in
theorem w_c20 : (Jvm.Cond.code ({ cls := "java/lang/Math", name := "min", desc := "(II)I" } : Jvm.MethodName) jdk_29_method_69_code (2 : Nat) (Option.some Jvm.ClassFile.FieldType.int)).before args0 about1 = true := code_word (m := ⟨18, 2⟩) (meth := k18m2) (c := k18c2) (by decide +kernel) rfl rfl rfl (by decide +kernel)
set_option maxRecDepth 65536 in
theorem w_c21 : (Jvm.Cond.code ({ cls := "java/lang/AbstractStringBuilder", name := "putStringAt", desc := "(ILjava/lang/String;)V" } : Jvm.MethodName) jdk_68_method_73_code (3 : Nat) (Option.none : Option Jvm.ClassFile.FieldType)).before args0 about1 = true := code_word (m := ⟨15, 10⟩) (meth := k15m10) (c := k15c10) (by decide +kernel) rfl rfl rfl (by decide +kernel)
set_option maxRecDepth 65536 in
theorem w_c22 : (Jvm.Cond.code ({ cls := "java/lang/AbstractStringBuilder", name := "inflateIfNeededFor", desc := "(Ljava/lang/String;)V" } : Jvm.MethodName) jdk_68_method_71_code (2 : Nat) (Option.none : Option Jvm.ClassFile.FieldType)).before args0 about1 = true := code_word (m := ⟨15, 9⟩) (meth := k15m9) (c := k15c9) (by decide +kernel) rfl rfl rfl (by decide +kernel)
set_option maxRecDepth 65536 in
theorem w_c23 : (Jvm.Cond.code ({ cls := "java/lang/String", name := "getBytes", desc := "([BIB)V" } : Jvm.MethodName) jdk_42_method_147_code (4 : Nat) (Option.none : Option Jvm.ClassFile.FieldType)).before args0 about1 = true := code_word (m := ⟨7, 6⟩) (meth := k7m6) (c := k7c6) (by decide +kernel) rfl rfl rfl (by decide +kernel)
set_option maxRecDepth 65536 in
theorem w_c24 : (Jvm.Cond.code ({ cls := "java/lang/StringBuilder", name := "toString", desc := "()Ljava/lang/String;" } : Jvm.MethodName) jdk_67_method_42_code (1 : Nat) (Option.some (Jvm.ClassFile.FieldType.object "java/lang/String"))).before args0 about1 = true := code_word (m := ⟨16, 3⟩) (meth := k16m3) (c := k16c3) (by decide +kernel) rfl rfl rfl (by decide +kernel)
set_option maxRecDepth 65536 in
theorem w_c25 : (Jvm.Cond.code ({ cls := "java/lang/String", name := "<init>", desc := "(Ljava/lang/StringBuilder;)V" } : Jvm.MethodName) jdk_42_method_53_code (2 : Nat) (Option.none : Option Jvm.ClassFile.FieldType)).before args0 about1 = true := code_word (m := ⟨7, 2⟩) (meth := k7m2) (c := k7c2) (by decide +kernel) rfl rfl rfl (by decide +kernel)
set_option maxRecDepth 65536 in
theorem w_c26 : (Jvm.Cond.code ({ cls := "java/lang/String", name := "<init>", desc := "(Ljava/lang/AbstractStringBuilder;Ljava/lang/Void;)V" } : Jvm.MethodName) jdk_42_method_150_code (5 : Nat) (Option.none : Option Jvm.ClassFile.FieldType)).before args0 about1 = true := code_word (m := ⟨7, 8⟩) (meth := k7m8) (c := k7c8) (by decide +kernel) rfl rfl rfl (by decide +kernel)
set_option maxRecDepth 65536 in
theorem w_c27 : (Jvm.Cond.code ({ cls := "java/lang/AbstractStringBuilder", name := "getValue", desc := "()[B" } : Jvm.MethodName) jdk_68_method_64_code (1 : Nat) (Option.some (Jvm.ClassFile.FieldType.array Jvm.ClassFile.FieldType.byte))).before args0 about1 = true := code_word (m := ⟨15, 7⟩) (meth := k15m7) (c := k15c7) (by decide +kernel) rfl rfl rfl (by decide +kernel)
set_option maxRecDepth 65536 in
theorem w_c28 : (Jvm.Cond.code ({ cls := "java/lang/StringBuilder", name := "length", desc := "()I" } : Jvm.MethodName) jdk_67_method_93_code (1 : Nat) (Option.some Jvm.ClassFile.FieldType.int)).before args0 about1 = true := code_word (m := ⟨16, 4⟩) (meth := k16m4) (c := k16c4) (by decide +kernel) rfl rfl rfl (by decide +kernel)
set_option maxRecDepth 65536 in
theorem w_c29 : (Jvm.Cond.code ({ cls := "java/lang/AbstractStringBuilder", name := "length", desc := "()I" } : Jvm.MethodName) jdk_68_method_6_code (1 : Nat) (Option.some Jvm.ClassFile.FieldType.int)).before args0 about1 = true := code_word (m := ⟨15, 2⟩) (meth := k15m2) (c := k15c2) (by decide +kernel) rfl rfl rfl (by decide +kernel)
set_option maxRecDepth 65536 in
theorem w_c30 : (Jvm.Cond.code ({ cls := "java/lang/AbstractStringBuilder", name := "isLatin1", desc := "()Z" } : Jvm.MethodName) jdk_68_method_68_code (1 : Nat) (Option.some Jvm.ClassFile.FieldType.boolean)).before args0 about1 = true := code_word (m := ⟨15, 8⟩) (meth := k15m8) (c := k15c8) (by decide +kernel) rfl rfl rfl (by decide +kernel)
set_option maxRecDepth 65536 in
theorem w_c31 : (Jvm.Cond.code ({ cls := "java/util/Arrays", name := "copyOfRange", desc := "([BII)[B" } : Jvm.MethodName) jdk_65_method_132_code (3 : Nat) (Option.some (Jvm.ClassFile.FieldType.array Jvm.ClassFile.FieldType.byte))).before args0 about1 = true := code_word (m := ⟨19, 3⟩) (meth := k19m3) (c := k19c3) (by decide +kernel) rfl rfl rfl (by decide +kernel)
set_option maxRecDepth 65536 in
theorem w_c32 : (Jvm.Cond.code ({ cls := "java/util/Arrays", name := "copyOfRangeByte", desc := "([BII)[B" } : Jvm.MethodName) jdk_65_method_133_code (5 : Nat) (Option.some (Jvm.ClassFile.FieldType.array Jvm.ClassFile.FieldType.byte))).before args0 about1 = true := code_word (m := ⟨19, 4⟩) (meth := k19m4) (c := k19c4) (by decide +kernel) rfl rfl rfl (by decide +kernel)
set_option maxRecDepth 65536 in
theorem w_c33 : (Jvm.Cond.code ({ cls := "java/util/Arrays", name := "checkLength", desc := "(II)V" } : Jvm.MethodName) jdk_65_method_131_code (2 : Nat) (Option.none : Option Jvm.ClassFile.FieldType)).before args0 about1 = true := code_word (m := ⟨19, 2⟩) (meth := k19m2) (c := k19c2) (by decide +kernel) rfl rfl rfl (by decide +kernel)
set_option maxRecDepth 65536 in
theorem w_c34 : (Jvm.Cond.code ({ cls := "com/example/aggregate_lock/aggregatelock/outcome/VersionConflictException", name := "expectation", desc := "(J)Ljava/lang/String;" } : Jvm.MethodName) prog_14_method_6_code (2 : Nat) (Option.some (Jvm.ClassFile.FieldType.object "java/lang/String"))).before args0 about1 = true := code_word (m := ⟨12, 2⟩) (meth := k12m2) (c := k12c2) (by decide +kernel) rfl rfl rfl (by decide +kernel)
set_option maxRecDepth 65536 in
theorem w_c35 : (Jvm.Cond.code ({ cls := "java/lang/StringBuilder", name := "append", desc := "(J)Ljava/lang/StringBuilder;" } : Jvm.MethodName) jdk_67_method_16_code (3 : Nat) (Option.some (Jvm.ClassFile.FieldType.object "java/lang/StringBuilder"))).before args0 about1 = true := code_word (m := ⟨16, 2⟩) (meth := k16m2) (c := k16c2) (by decide +kernel) rfl rfl rfl (by decide +kernel)
set_option maxRecDepth 65536 in
theorem w_c36 : (Jvm.Cond.code ({ cls := "java/lang/AbstractStringBuilder", name := "append", desc := "(J)Ljava/lang/AbstractStringBuilder;" } : Jvm.MethodName) jdk_68_method_33_code (5 : Nat) (Option.some (Jvm.ClassFile.FieldType.object "java/lang/AbstractStringBuilder"))).before args0 about1 = true := code_word (m := ⟨15, 6⟩) (meth := k15m6) (c := k15c6) (by decide +kernel) rfl rfl rfl (by decide +kernel)
set_option maxRecDepth 65536 in
theorem w_c37 : (Jvm.Cond.code ({ cls := "java/lang/Long", name := "stringSize", desc := "(J)I" } : Jvm.MethodName) jdk_35_method_15_code (6 : Nat) (Option.some Jvm.ClassFile.FieldType.int)).before args0 about1 = true := code_word (m := ⟨22, 1⟩) (meth := k22m1) (c := k22c1) (by decide +kernel) rfl rfl rfl (by decide +kernel)
set_option maxRecDepth 65536 in
theorem w_c38 : (Jvm.Cond.code ({ cls := "java/lang/Long", name := "getChars", desc := "(JI[B)I" } : Jvm.MethodName) jdk_35_method_14_code (11 : Nat) (Option.some Jvm.ClassFile.FieldType.int)).before args0 about1 = true := code_word (m := ⟨22, 0⟩) (meth := k22m0) (c := k22c0) (by decide +kernel) rfl rfl rfl (by decide +kernel)
set_option maxRecDepth 65536 in
theorem w_c39 : (Jvm.Cond.code ({ cls := "com/example/aggregate_lock/aggregatelock/outcome/VersionConflictException", name := "<init>", desc := "(Ljava/lang/String;Ljava/lang/String;Ljava/lang/String;JLjava/lang/Long;Ljava/lang/String;Ljava/time/Instant;Z)V" } : Jvm.MethodName) prog_14_method_1_code (10 : Nat) (Option.none : Option Jvm.ClassFile.FieldType)).before args0 about1 = true := code_word (m := ⟨12, 0⟩) (meth := k12m0) (c := k12c0) (by decide +kernel) rfl rfl rfl (by decide +kernel)
set_option maxRecDepth 65536 in
theorem w_c40 : (Jvm.Cond.code ({ cls := "com/example/aggregate_lock/aggregatelock/outcome/AggregateLockException", name := "<init>", desc := "(Ljava/lang/String;)V" } : Jvm.MethodName) prog_7_method_1_code (2 : Nat) (Option.none : Option Jvm.ClassFile.FieldType)).before args0 about1 = true := code_word (m := ⟨11, 0⟩) (meth := k11m0) (c := k11c0) (by decide +kernel) rfl rfl rfl (by decide +kernel)
set_option maxRecDepth 65536 in
theorem w_c41 : (Jvm.Cond.code ({ cls := "java/lang/RuntimeException", name := "<init>", desc := "(Ljava/lang/String;)V" } : Jvm.MethodName) jdk_58_method_2_code (2 : Nat) (Option.none : Option Jvm.ClassFile.FieldType)).before args0 about1 = true := code_word (m := ⟨10, 1⟩) (meth := k10m1) (c := k10c1) (by decide +kernel) rfl rfl rfl (by decide +kernel)
set_option maxRecDepth 65536 in
theorem w_c42 : (Jvm.Cond.code ({ cls := "java/lang/Exception", name := "<init>", desc := "(Ljava/lang/String;)V" } : Jvm.MethodName) jdk_59_method_2_code (2 : Nat) (Option.none : Option Jvm.ClassFile.FieldType)).before args0 about1 = true := code_word (m := ⟨9, 1⟩) (meth := k9m1) (c := k9c1) (by decide +kernel) rfl rfl rfl (by decide +kernel)
set_option maxRecDepth 65536 in
theorem w_c43 : (Jvm.Cond.code ({ cls := "java/lang/Throwable", name := "<init>", desc := "(Ljava/lang/String;)V" } : Jvm.MethodName) jdk_78_method_2_code (2 : Nat) (Option.none : Option Jvm.ClassFile.FieldType)).before args0 about1 = true := code_word (m := ⟨8, 1⟩) (meth := k8m1) (c := k8c1) (by decide +kernel) rfl rfl rfl (by decide +kernel)
set_option maxRecDepth 65536 in
theorem w_c44 : (Jvm.Cond.code ({ cls := "java/lang/Throwable", name := "<init>", desc := "()V" } : Jvm.MethodName) jdk_78_method_1_code (1 : Nat) (Option.none : Option Jvm.ClassFile.FieldType)).before args0 about1 = true := code_word (m := ⟨8, 0⟩) (meth := k8m0) (c := k8c0) (by decide +kernel) rfl rfl rfl (by decide +kernel)
set_option maxRecDepth 65536 in
theorem w_c45 : (Jvm.Cond.code ({ cls := "com/example/aggregate_lock/aggregatelock/outcome/VersionConflictException", name := "type", desc := "()Ljava/lang/String;" } : Jvm.MethodName) prog_14_method_7_code (1 : Nat) (Option.some (Jvm.ClassFile.FieldType.object "java/lang/String"))).before args0 about1 = true := code_word (m := ⟨12, 3⟩) (meth := k12m3) (c := k12c3) (by decide +kernel) rfl rfl rfl (by decide +kernel)
set_option maxRecDepth 65536 in
theorem w_c46 : (Jvm.Cond.code ({ cls := "java/lang/String", name := "equals", desc := "(Ljava/lang/Object;)Z" } : Jvm.MethodName) jdk_42_method_66_code (3 : Nat) (Option.some Jvm.ClassFile.FieldType.boolean)).before args0 about1 = true := code_word (m := ⟨7, 5⟩) (meth := k7m5) (c := k7c5) (by decide +kernel) rfl rfl rfl (by decide +kernel)
set_option maxRecDepth 65536 in
theorem w_c47 : (Jvm.Cond.code ({ cls := "com/example/aggregate_lock/aggregatelock/outcome/VersionConflictException", name := "id", desc := "()Ljava/lang/String;" } : Jvm.MethodName) prog_14_method_8_code (1 : Nat) (Option.some (Jvm.ClassFile.FieldType.object "java/lang/String"))).before args0 about1 = true := code_word (m := ⟨12, 4⟩) (meth := k12m4) (c := k12c4) (by decide +kernel) rfl rfl rfl (by decide +kernel)
set_option maxRecDepth 65536 in
theorem w_c48 : (Jvm.Cond.code ({ cls := "com/example/aggregate_lock/aggregatelock/outcome/VersionConflictException", name := "expectedVersion", desc := "()J" } : Jvm.MethodName) prog_14_method_9_code (1 : Nat) (Option.some Jvm.ClassFile.FieldType.long)).before args0 about1 = true := code_word (m := ⟨12, 5⟩) (meth := k12m5) (c := k12c5) (by decide +kernel) rfl rfl rfl (by decide +kernel)
set_option maxRecDepth 65536 in
theorem w_c49 : (Jvm.Cond.code ({ cls := "com/example/aggregate_lock/aggregatelock/outcome/VersionConflictException", name := "currentVersion", desc := "()Ljava/util/OptionalLong;" } : Jvm.MethodName) prog_14_method_10_code (1 : Nat) (Option.some (Jvm.ClassFile.FieldType.object "java/util/OptionalLong"))).before args0 about1 = true := code_word (m := ⟨12, 6⟩) (meth := k12m6) (c := k12c6) (by decide +kernel) rfl rfl rfl (by decide +kernel)
set_option maxRecDepth 65536 in
theorem w_c50 : (Jvm.Cond.code ({ cls := "java/util/OptionalLong", name := "empty", desc := "()Ljava/util/OptionalLong;" } : Jvm.MethodName) jdk_2650_method_2_code (0 : Nat) (Option.some (Jvm.ClassFile.FieldType.object "java/util/OptionalLong"))).before args0 about1 = true := code_word (m := ⟨24, 1⟩) (meth := k24m1) (c := k24c1) (by decide +kernel) rfl rfl rfl (by decide +kernel)
set_option maxRecDepth 65536 in
theorem w_c51 : (Jvm.Cond.code ({ cls := "java/util/OptionalLong", name := "isPresent", desc := "()Z" } : Jvm.MethodName) jdk_2650_method_6_code (1 : Nat) (Option.some Jvm.ClassFile.FieldType.boolean)).before args0 about1 = true := code_word (m := ⟨24, 2⟩) (meth := k24m2) (c := k24c2) (by decide +kernel) rfl rfl rfl (by decide +kernel)
set_option maxRecDepth 65536 in
theorem w_c52 : (Jvm.Cond.code ({ cls := "com/example/aggregate_lock/aggregatelock/outcome/VersionConflictException", name := "changedBy", desc := "()Ljava/lang/String;" } : Jvm.MethodName) prog_14_method_11_code (1 : Nat) (Option.some (Jvm.ClassFile.FieldType.object "java/lang/String"))).before args0 about1 = true := code_word (m := ⟨12, 7⟩) (meth := k12m7) (c := k12c7) (by decide +kernel) rfl rfl rfl (by decide +kernel)
set_option maxRecDepth 65536 in
theorem w_c53 : (Jvm.Cond.code ({ cls := "com/example/aggregate_lock/aggregatelock/outcome/VersionConflictException", name := "changedAt", desc := "()Ljava/time/Instant;" } : Jvm.MethodName) prog_14_method_12_code (1 : Nat) (Option.some (Jvm.ClassFile.FieldType.object "java/time/Instant"))).before args0 about1 = true := code_word (m := ⟨12, 8⟩) (meth := k12m8) (c := k12c8) (by decide +kernel) rfl rfl rfl (by decide +kernel)
set_option maxRecDepth 65536 in
theorem w_c54 : (Jvm.Cond.code ({ cls := "com/example/aggregate_lock/aggregatelock/outcome/VersionConflictException", name := "deleted", desc := "()Z" } : Jvm.MethodName) prog_14_method_13_code (1 : Nat) (Option.some Jvm.ClassFile.FieldType.boolean)).before args0 about1 = true := code_word (m := ⟨12, 9⟩) (meth := k12m9) (c := k12c9) (by decide +kernel) rfl rfl rfl (by decide +kernel)
set_option maxRecDepth 65536 in
theorem w_c55 : (Jvm.Cond.code ({ cls := "java/lang/Throwable", name := "getMessage", desc := "()Ljava/lang/String;" } : Jvm.MethodName) jdk_78_method_6_code (1 : Nat) (Option.some (Jvm.ClassFile.FieldType.object "java/lang/String"))).before args0 about1 = true := code_word (m := ⟨8, 2⟩) (meth := k8m2) (c := k8c2) (by decide +kernel) rfl rfl rfl (by decide +kernel)
set_option maxRecDepth 65536 in
theorem w_c56 : (Jvm.Cond.code ({ cls := "com/example/aggregate_lock/aggregatelock/outcome/VersionConflictExceptionNeverCreatedPinLaw", name := "digits", desc := "(J)I" } : Jvm.MethodName) method_4_code (3 : Nat) (Option.some Jvm.ClassFile.FieldType.int)).before args0 about1 = true := code_word (m := ⟨1, 3⟩) (meth := k1m3) (c := k1c3) (by decide +kernel) rfl rfl rfl (by decide +kernel)
set_option maxRecDepth 65536 in
theorem w_c57 : (Jvm.Cond.code ({ cls := "java/lang/String", name := "charAt", desc := "(I)C" } : Jvm.MethodName) jdk_42_method_56_code (2 : Nat) (Option.some Jvm.ClassFile.FieldType.char)).before args0 about1 = true := code_word (m := ⟨7, 4⟩) (meth := k7m4) (c := k7c4) (by decide +kernel) rfl rfl rfl (by decide +kernel)
set_option maxRecDepth 65536 in
theorem w_c58 : (Jvm.Cond.code ({ cls := "java/lang/String", name := "isLatin1", desc := "()Z" } : Jvm.MethodName) jdk_42_method_154_code (1 : Nat) (Option.some Jvm.ClassFile.FieldType.boolean)).before args0 about1 = true := code_word (m := ⟨7, 10⟩) (meth := k7m10) (c := k7c10) (by decide +kernel) rfl rfl rfl (by decide +kernel)
set_option maxRecDepth 65536 in
theorem w_c59 : (Jvm.Cond.code ({ cls := "java/lang/StringLatin1", name := "charAt", desc := "([BI)C" } : Jvm.MethodName) jdk_43_method_2_code (2 : Nat) (Option.some Jvm.ClassFile.FieldType.char)).before args0 about1 = true := code_word (m := ⟨25, 1⟩) (meth := k25m1) (c := k25c1) (by decide +kernel) rfl rfl rfl (by decide +kernel)
set_option maxRecDepth 65536 in
theorem w_c60 : (Jvm.Cond.code ({ cls := "java/lang/String", name := "checkIndex", desc := "(II)V" } : Jvm.MethodName) jdk_42_method_155_code (2 : Nat) (Option.none : Option Jvm.ClassFile.FieldType)).before args0 about1 = true := code_word (m := ⟨7, 11⟩) (meth := k7m11) (c := k7c11) (by decide +kernel) rfl rfl rfl (by decide +kernel)
set_option maxRecDepth 65536 in
theorem w_c61 : (Jvm.Cond.code ({ cls := "jdk/internal/util/Preconditions", name := "checkIndex", desc := "(IILjava/util/function/BiFunction;)I" } : Jvm.MethodName) jdk_41_method_11_code (3 : Nat) (Option.some Jvm.ClassFile.FieldType.int)).before args0 about1 = true := code_word (m := ⟨26, 1⟩) (meth := k26m1) (c := k26c1) (by decide +kernel) rfl rfl rfl (by decide +kernel)
set_option maxRecDepth 65536 in
theorem w_c62 : (Jvm.Cond.code ({ cls := "java/lang/StringUTF16", name := "compress", desc := "([CII)[B" } : Jvm.MethodName) jdk_52_method_16_code (6 : Nat) (Option.some (Jvm.ClassFile.FieldType.array Jvm.ClassFile.FieldType.byte))).before args0 about1 = true := code_word (m := ⟨27, 2⟩) (meth := k27m2) (c := k27c2) (by decide +kernel) rfl rfl rfl (by decide +kernel)
set_option maxRecDepth 65536 in
theorem w_c63 : (Jvm.Cond.code ({ cls := "java/lang/StringUTF16", name := "compress", desc := "([CI[BII)I" } : Jvm.MethodName) jdk_52_method_21_code (7 : Nat) (Option.some Jvm.ClassFile.FieldType.int)).before args0 about1 = true := code_word (m := ⟨27, 3⟩) (meth := k27m3) (c := k27c3) (by decide +kernel) rfl rfl rfl (by decide +kernel)
set_option maxRecDepth 65536 in
theorem w_c64 : (Jvm.Cond.code ({ cls := "java/lang/StringUTF16", name := "coderFromArrayLen", desc := "([BI)B" } : Jvm.MethodName) jdk_52_method_15_code (2 : Nat) (Option.some Jvm.ClassFile.FieldType.byte)).before args0 about1 = true := code_word (m := ⟨27, 1⟩) (meth := k27m1) (c := k27c1) (by decide +kernel) rfl rfl rfl (by decide +kernel)
def codes1 : List Jvm.Cond := [Jvm.Cond.code x code maxLocals ret, Jvm.Cond.code ({ cls := "com/example/aggregate_lock/aggregatelock/outcome/VersionConflictExceptionNeverCreatedPinLaw", name := "mk", desc := "(I)Ljava/lang/String;" } : Jvm.MethodName) method_3_code (4 : Nat) (Option.some (Jvm.ClassFile.FieldType.object "java/lang/String")), Jvm.Cond.code ({ cls := "java/lang/String", name := "<init>", desc := "([C)V" } : Jvm.MethodName) jdk_42_method_3_code (2 : Nat) (Option.none : Option Jvm.ClassFile.FieldType), Jvm.Cond.code ({ cls := "java/lang/String", name := "<init>", desc := "([CIILjava/lang/Void;)V" } : Jvm.MethodName) jdk_42_method_149_code (6 : Nat) (Option.none : Option Jvm.ClassFile.FieldType), Jvm.Cond.code ({ cls := "java/lang/Object", name := "<init>", desc := "()V" } : Jvm.MethodName) object_method_1_code (1 : Nat) (Option.none : Option Jvm.ClassFile.FieldType), Jvm.Cond.code ({ cls := "com/example/aggregate_lock/aggregatelock/outcome/VersionConflictException", name := "neverCreated", desc := "(Ljava/lang/String;Ljava/lang/String;J)Lcom/example/aggregate_lock/aggregatelock/outcome/VersionConflictException;" } : Jvm.MethodName) prog_14_method_4_code (5 : Nat) (Option.some (Jvm.ClassFile.FieldType.object "com/example/aggregate_lock/aggregatelock/outcome/VersionConflictException")), Jvm.Cond.code ({ cls := "com/example/aggregate_lock/aggregatelock/outcome/AggregateLockException", name := "requireKey", desc := "(Ljava/lang/String;Ljava/lang/String;)V" } : Jvm.MethodName) prog_7_method_5_code (2 : Nat) (Option.none : Option Jvm.ClassFile.FieldType), Jvm.Cond.code ({ cls := "java/util/Objects", name := "requireNonNull", desc := "(Ljava/lang/Object;Ljava/lang/String;)Ljava/lang/Object;" } : Jvm.MethodName) jdk_31_method_11_code (2 : Nat) (Option.some (Jvm.ClassFile.FieldType.object "java/lang/Object")), Jvm.Cond.code ({ cls := "java/lang/StringBuilder", name := "<init>", desc := "()V" } : Jvm.MethodName) jdk_67_method_1_code (1 : Nat) (Option.none : Option Jvm.ClassFile.FieldType), Jvm.Cond.code ({ cls := "java/lang/AbstractStringBuilder", name := "<init>", desc := "(I)V" } : Jvm.MethodName) jdk_68_method_2_code (2 : Nat) (Option.none : Option Jvm.ClassFile.FieldType), Jvm.Cond.code ({ cls := "com/example/aggregate_lock/aggregatelock/outcome/AggregateLockException", name := "aggregate", desc := "(Ljava/lang/String;Ljava/lang/String;)Ljava/lang/String;" } : Jvm.MethodName) prog_7_method_6_code (2 : Nat) (Option.some (Jvm.ClassFile.FieldType.object "java/lang/String")), Jvm.Cond.code ({ cls := "java/lang/StringBuilder", name := "append", desc := "(Ljava/lang/String;)Ljava/lang/StringBuilder;" } : Jvm.MethodName) jdk_67_method_7_code (2 : Nat) (Option.some (Jvm.ClassFile.FieldType.object "java/lang/StringBuilder")), Jvm.Cond.code ({ cls := "java/lang/AbstractStringBuilder", name := "append", desc := "(Ljava/lang/String;)Ljava/lang/AbstractStringBuilder;" } : Jvm.MethodName) jdk_68_method_22_code (3 : Nat) (Option.some (Jvm.ClassFile.FieldType.object "java/lang/AbstractStringBuilder")), Jvm.Cond.code ({ cls := "java/lang/String", name := "length", desc := "()I" } : Jvm.MethodName) jdk_42_method_54_code (1 : Nat) (Option.some Jvm.ClassFile.FieldType.int), Jvm.Cond.code ({ cls := "java/lang/String", name := "coder", desc := "()B" } : Jvm.MethodName) jdk_42_method_152_code (1 : Nat) (Option.some Jvm.ClassFile.FieldType.byte), Jvm.Cond.code ({ cls := "java/lang/AbstractStringBuilder", name := "ensureCapacityInternal", desc := "(I)V" } : Jvm.MethodName) jdk_68_method_9_code (3 : Nat) (Option.none : Option Jvm.ClassFile.FieldType), Jvm.Cond.code ({ cls := "java/lang/AbstractStringBuilder", name := "newCapacity", desc := "(I)I" } : Jvm.MethodName) jdk_68_method_10_code (6 : Nat) (Option.some Jvm.ClassFile.FieldType.int), Jvm.Cond.code ({ cls := "jdk/internal/util/ArraysSupport", name := "newLength", desc := "(III)I" } : Jvm.MethodName) jdk_48_method_27_code (4 : Nat) (Option.some Jvm.ClassFile.FieldType.int), Jvm.Cond.code ({ cls := "java/lang/Math", name := "max", desc := "(II)I" } : Jvm.MethodName) jdk_29_method_65_code (2 : Nat) (Option.some Jvm.ClassFile.FieldType.int), Jvm.Cond.code ({ cls := "java/util/Arrays", name := "copyOf", desc := "([BI)[B" } : Jvm.MethodName) jdk_65_method_121_code (3 : Nat) (Option.some (Jvm.ClassFile.FieldType.array Jvm.ClassFile.FieldType.byte)), Jvm.Cond.code ({ cls := "java/lang/Math", name := "min", desc := "(II)I" } : Jvm.MethodName) jdk_29_method_69_code (2 : Nat) (Option.some Jvm.ClassFile.FieldType.int), Jvm.Cond.code ({ cls := "java/lang/AbstractStringBuilder", name := "putStringAt", desc := "(ILjava/lang/String;)V" } : Jvm.MethodName) jdk_68_method_73_code (3 : Nat) (Option.none : Option Jvm.ClassFile.FieldType), Jvm.Cond.code ({ cls := "java/lang/AbstractStringBuilder", name := "inflateIfNeededFor", desc := "(Ljava/lang/String;)V" } : Jvm.MethodName) jdk_68_method_71_code (2 : Nat) (Option.none : Option Jvm.ClassFile.FieldType), Jvm.Cond.code ({ cls := "java/lang/String", name := "getBytes", desc := "([BIB)V" } : Jvm.MethodName) jdk_42_method_147_code (4 : Nat) (Option.none : Option Jvm.ClassFile.FieldType), Jvm.Cond.code ({ cls := "java/lang/StringBuilder", name := "toString", desc := "()Ljava/lang/String;" } : Jvm.MethodName) jdk_67_method_42_code (1 : Nat) (Option.some (Jvm.ClassFile.FieldType.object "java/lang/String")), Jvm.Cond.code ({ cls := "java/lang/String", name := "<init>", desc := "(Ljava/lang/StringBuilder;)V" } : Jvm.MethodName) jdk_42_method_53_code (2 : Nat) (Option.none : Option Jvm.ClassFile.FieldType), Jvm.Cond.code ({ cls := "java/lang/String", name := "<init>", desc := "(Ljava/lang/AbstractStringBuilder;Ljava/lang/Void;)V" } : Jvm.MethodName) jdk_42_method_150_code (5 : Nat) (Option.none : Option Jvm.ClassFile.FieldType), Jvm.Cond.code ({ cls := "java/lang/AbstractStringBuilder", name := "getValue", desc := "()[B" } : Jvm.MethodName) jdk_68_method_64_code (1 : Nat) (Option.some (Jvm.ClassFile.FieldType.array Jvm.ClassFile.FieldType.byte)), Jvm.Cond.code ({ cls := "java/lang/StringBuilder", name := "length", desc := "()I" } : Jvm.MethodName) jdk_67_method_93_code (1 : Nat) (Option.some Jvm.ClassFile.FieldType.int), Jvm.Cond.code ({ cls := "java/lang/AbstractStringBuilder", name := "length", desc := "()I" } : Jvm.MethodName) jdk_68_method_6_code (1 : Nat) (Option.some Jvm.ClassFile.FieldType.int), Jvm.Cond.code ({ cls := "java/lang/AbstractStringBuilder", name := "isLatin1", desc := "()Z" } : Jvm.MethodName) jdk_68_method_68_code (1 : Nat) (Option.some Jvm.ClassFile.FieldType.boolean), Jvm.Cond.code ({ cls := "java/util/Arrays", name := "copyOfRange", desc := "([BII)[B" } : Jvm.MethodName) jdk_65_method_132_code (3 : Nat) (Option.some (Jvm.ClassFile.FieldType.array Jvm.ClassFile.FieldType.byte)), Jvm.Cond.code ({ cls := "java/util/Arrays", name := "copyOfRangeByte", desc := "([BII)[B" } : Jvm.MethodName) jdk_65_method_133_code (5 : Nat) (Option.some (Jvm.ClassFile.FieldType.array Jvm.ClassFile.FieldType.byte)), Jvm.Cond.code ({ cls := "java/util/Arrays", name := "checkLength", desc := "(II)V" } : Jvm.MethodName) jdk_65_method_131_code (2 : Nat) (Option.none : Option Jvm.ClassFile.FieldType), Jvm.Cond.code ({ cls := "com/example/aggregate_lock/aggregatelock/outcome/VersionConflictException", name := "expectation", desc := "(J)Ljava/lang/String;" } : Jvm.MethodName) prog_14_method_6_code (2 : Nat) (Option.some (Jvm.ClassFile.FieldType.object "java/lang/String")), Jvm.Cond.code ({ cls := "java/lang/StringBuilder", name := "append", desc := "(J)Ljava/lang/StringBuilder;" } : Jvm.MethodName) jdk_67_method_16_code (3 : Nat) (Option.some (Jvm.ClassFile.FieldType.object "java/lang/StringBuilder")), Jvm.Cond.code ({ cls := "java/lang/AbstractStringBuilder", name := "append", desc := "(J)Ljava/lang/AbstractStringBuilder;" } : Jvm.MethodName) jdk_68_method_33_code (5 : Nat) (Option.some (Jvm.ClassFile.FieldType.object "java/lang/AbstractStringBuilder")), Jvm.Cond.code ({ cls := "java/lang/Long", name := "stringSize", desc := "(J)I" } : Jvm.MethodName) jdk_35_method_15_code (6 : Nat) (Option.some Jvm.ClassFile.FieldType.int), Jvm.Cond.code ({ cls := "java/lang/Long", name := "getChars", desc := "(JI[B)I" } : Jvm.MethodName) jdk_35_method_14_code (11 : Nat) (Option.some Jvm.ClassFile.FieldType.int), Jvm.Cond.code ({ cls := "com/example/aggregate_lock/aggregatelock/outcome/VersionConflictException", name := "<init>", desc := "(Ljava/lang/String;Ljava/lang/String;Ljava/lang/String;JLjava/lang/Long;Ljava/lang/String;Ljava/time/Instant;Z)V" } : Jvm.MethodName) prog_14_method_1_code (10 : Nat) (Option.none : Option Jvm.ClassFile.FieldType), Jvm.Cond.code ({ cls := "com/example/aggregate_lock/aggregatelock/outcome/AggregateLockException", name := "<init>", desc := "(Ljava/lang/String;)V" } : Jvm.MethodName) prog_7_method_1_code (2 : Nat) (Option.none : Option Jvm.ClassFile.FieldType), Jvm.Cond.code ({ cls := "java/lang/RuntimeException", name := "<init>", desc := "(Ljava/lang/String;)V" } : Jvm.MethodName) jdk_58_method_2_code (2 : Nat) (Option.none : Option Jvm.ClassFile.FieldType), Jvm.Cond.code ({ cls := "java/lang/Exception", name := "<init>", desc := "(Ljava/lang/String;)V" } : Jvm.MethodName) jdk_59_method_2_code (2 : Nat) (Option.none : Option Jvm.ClassFile.FieldType), Jvm.Cond.code ({ cls := "java/lang/Throwable", name := "<init>", desc := "(Ljava/lang/String;)V" } : Jvm.MethodName) jdk_78_method_2_code (2 : Nat) (Option.none : Option Jvm.ClassFile.FieldType), Jvm.Cond.code ({ cls := "java/lang/Throwable", name := "<init>", desc := "()V" } : Jvm.MethodName) jdk_78_method_1_code (1 : Nat) (Option.none : Option Jvm.ClassFile.FieldType), Jvm.Cond.code ({ cls := "com/example/aggregate_lock/aggregatelock/outcome/VersionConflictException", name := "type", desc := "()Ljava/lang/String;" } : Jvm.MethodName) prog_14_method_7_code (1 : Nat) (Option.some (Jvm.ClassFile.FieldType.object "java/lang/String")), Jvm.Cond.code ({ cls := "java/lang/String", name := "equals", desc := "(Ljava/lang/Object;)Z" } : Jvm.MethodName) jdk_42_method_66_code (3 : Nat) (Option.some Jvm.ClassFile.FieldType.boolean), Jvm.Cond.code ({ cls := "com/example/aggregate_lock/aggregatelock/outcome/VersionConflictException", name := "id", desc := "()Ljava/lang/String;" } : Jvm.MethodName) prog_14_method_8_code (1 : Nat) (Option.some (Jvm.ClassFile.FieldType.object "java/lang/String")), Jvm.Cond.code ({ cls := "com/example/aggregate_lock/aggregatelock/outcome/VersionConflictException", name := "expectedVersion", desc := "()J" } : Jvm.MethodName) prog_14_method_9_code (1 : Nat) (Option.some Jvm.ClassFile.FieldType.long), Jvm.Cond.code ({ cls := "com/example/aggregate_lock/aggregatelock/outcome/VersionConflictException", name := "currentVersion", desc := "()Ljava/util/OptionalLong;" } : Jvm.MethodName) prog_14_method_10_code (1 : Nat) (Option.some (Jvm.ClassFile.FieldType.object "java/util/OptionalLong")), Jvm.Cond.code ({ cls := "java/util/OptionalLong", name := "empty", desc := "()Ljava/util/OptionalLong;" } : Jvm.MethodName) jdk_2650_method_2_code (0 : Nat) (Option.some (Jvm.ClassFile.FieldType.object "java/util/OptionalLong")), Jvm.Cond.code ({ cls := "java/util/OptionalLong", name := "isPresent", desc := "()Z" } : Jvm.MethodName) jdk_2650_method_6_code (1 : Nat) (Option.some Jvm.ClassFile.FieldType.boolean), Jvm.Cond.code ({ cls := "com/example/aggregate_lock/aggregatelock/outcome/VersionConflictException", name := "changedBy", desc := "()Ljava/lang/String;" } : Jvm.MethodName) prog_14_method_11_code (1 : Nat) (Option.some (Jvm.ClassFile.FieldType.object "java/lang/String")), Jvm.Cond.code ({ cls := "com/example/aggregate_lock/aggregatelock/outcome/VersionConflictException", name := "changedAt", desc := "()Ljava/time/Instant;" } : Jvm.MethodName) prog_14_method_12_code (1 : Nat) (Option.some (Jvm.ClassFile.FieldType.object "java/time/Instant")), Jvm.Cond.code ({ cls := "com/example/aggregate_lock/aggregatelock/outcome/VersionConflictException", name := "deleted", desc := "()Z" } : Jvm.MethodName) prog_14_method_13_code (1 : Nat) (Option.some Jvm.ClassFile.FieldType.boolean), Jvm.Cond.code ({ cls := "java/lang/Throwable", name := "getMessage", desc := "()Ljava/lang/String;" } : Jvm.MethodName) jdk_78_method_6_code (1 : Nat) (Option.some (Jvm.ClassFile.FieldType.object "java/lang/String")), Jvm.Cond.code ({ cls := "com/example/aggregate_lock/aggregatelock/outcome/VersionConflictExceptionNeverCreatedPinLaw", name := "digits", desc := "(J)I" } : Jvm.MethodName) method_4_code (3 : Nat) (Option.some Jvm.ClassFile.FieldType.int), Jvm.Cond.code ({ cls := "java/lang/String", name := "charAt", desc := "(I)C" } : Jvm.MethodName) jdk_42_method_56_code (2 : Nat) (Option.some Jvm.ClassFile.FieldType.char), Jvm.Cond.code ({ cls := "java/lang/String", name := "isLatin1", desc := "()Z" } : Jvm.MethodName) jdk_42_method_154_code (1 : Nat) (Option.some Jvm.ClassFile.FieldType.boolean), Jvm.Cond.code ({ cls := "java/lang/StringLatin1", name := "charAt", desc := "([BI)C" } : Jvm.MethodName) jdk_43_method_2_code (2 : Nat) (Option.some Jvm.ClassFile.FieldType.char), Jvm.Cond.code ({ cls := "java/lang/String", name := "checkIndex", desc := "(II)V" } : Jvm.MethodName) jdk_42_method_155_code (2 : Nat) (Option.none : Option Jvm.ClassFile.FieldType), Jvm.Cond.code ({ cls := "jdk/internal/util/Preconditions", name := "checkIndex", desc := "(IILjava/util/function/BiFunction;)I" } : Jvm.MethodName) jdk_41_method_11_code (3 : Nat) (Option.some Jvm.ClassFile.FieldType.int), Jvm.Cond.code ({ cls := "java/lang/StringUTF16", name := "compress", desc := "([CII)[B" } : Jvm.MethodName) jdk_52_method_16_code (6 : Nat) (Option.some (Jvm.ClassFile.FieldType.array Jvm.ClassFile.FieldType.byte)), Jvm.Cond.code ({ cls := "java/lang/StringUTF16", name := "compress", desc := "([CI[BII)I" } : Jvm.MethodName) jdk_52_method_21_code (7 : Nat) (Option.some Jvm.ClassFile.FieldType.int), Jvm.Cond.code ({ cls := "java/lang/StringUTF16", name := "coderFromArrayLen", desc := "([BI)B" } : Jvm.MethodName) jdk_52_method_15_code (2 : Nat) (Option.some Jvm.ClassFile.FieldType.byte)]
set_option maxRecDepth 65536 in
theorem codes_eq : words1.filter isCode = codes1 := rfl
theorem w_codes : ∀ c ∈ words1.filter isCode, c.before args0 about1 = true := by
  rw [codes_eq]
  intro c hc
  simp only [codes1, List.mem_cons, List.not_mem_nil, or_false] at hc
  rcases hc with rfl | rfl | rfl | rfl | rfl | rfl | rfl | rfl | rfl | rfl | rfl | rfl | rfl | rfl | rfl | rfl | rfl | rfl | rfl | rfl | rfl | rfl | rfl | rfl | rfl | rfl | rfl | rfl | rfl | rfl | rfl | rfl | rfl | rfl | rfl | rfl | rfl | rfl | rfl | rfl | rfl | rfl | rfl | rfl | rfl | rfl | rfl | rfl | rfl | rfl | rfl | rfl | rfl | rfl | rfl | rfl | rfl | rfl | rfl | rfl | rfl | rfl | rfl | rfl | rfl
  · exact w_c0
  · exact w_c1
  · exact w_c2
  · exact w_c3
  · exact w_c4
  · exact w_c5
  · exact w_c6
  · exact w_c7
  · exact w_c8
  · exact w_c9
  · exact w_c10
  · exact w_c11
  · exact w_c12
  · exact w_c13
  · exact w_c14
  · exact w_c15
  · exact w_c16
  · exact w_c17
  · exact w_c18
  · exact w_c19
  · exact w_c20
  · exact w_c21
  · exact w_c22
  · exact w_c23
  · exact w_c24
  · exact w_c25
  · exact w_c26
  · exact w_c27
  · exact w_c28
  · exact w_c29
  · exact w_c30
  · exact w_c31
  · exact w_c32
  · exact w_c33
  · exact w_c34
  · exact w_c35
  · exact w_c36
  · exact w_c37
  · exact w_c38
  · exact w_c39
  · exact w_c40
  · exact w_c41
  · exact w_c42
  · exact w_c43
  · exact w_c44
  · exact w_c45
  · exact w_c46
  · exact w_c47
  · exact w_c48
  · exact w_c49
  · exact w_c50
  · exact w_c51
  · exact w_c52
  · exact w_c53
  · exact w_c54
  · exact w_c55
  · exact w_c56
  · exact w_c57
  · exact w_c58
  · exact w_c59
  · exact w_c60
  · exact w_c61
  · exact w_c62
  · exact w_c63
  · exact w_c64
set_option maxRecDepth 65536 in
theorem w_t1 : (words1.take 24).all (fun c => isCode c || c.before args0 about1) = true := by decide +kernel
set_option maxRecDepth 65536 in
theorem w_t2 : ((words1.drop 24).take 24).all (fun c => isCode c || c.before args0 about1) = true := by decide +kernel
set_option maxRecDepth 65536 in
theorem w_t3 : (((words1.drop 24).drop 24).take 24).all (fun c => isCode c || c.before args0 about1) = true := by decide +kernel
set_option maxRecDepth 65536 in
theorem w_t4 : ((((words1.drop 24).drop 24).drop 24).take 24).all (fun c => isCode c || c.before args0 about1) = true := by decide +kernel
set_option maxRecDepth 65536 in
theorem w_t5 : (((((words1.drop 24).drop 24).drop 24).drop 24).take 24).all (fun c => isCode c || c.before args0 about1) = true := by decide +kernel
set_option maxRecDepth 65536 in
theorem w_t6 : ((((((words1.drop 24).drop 24).drop 24).drop 24).drop 24).take 24).all (fun c => isCode c || c.before args0 about1) = true := by decide +kernel
set_option maxRecDepth 65536 in
theorem w_t7 : (((((((words1.drop 24).drop 24).drop 24).drop 24).drop 24).drop 24).take 24).all (fun c => isCode c || c.before args0 about1) = true := by decide +kernel
set_option maxRecDepth 65536 in
theorem w_t8 : ((((((((words1.drop 24).drop 24).drop 24).drop 24).drop 24).drop 24).drop 24).take 24).all (fun c => isCode c || c.before args0 about1) = true := by decide +kernel
set_option maxRecDepth 65536 in
theorem w_t9 : (((((((((words1.drop 24).drop 24).drop 24).drop 24).drop 24).drop 24).drop 24).drop 24).take 24).all (fun c => isCode c || c.before args0 about1) = true := by decide +kernel
set_option maxRecDepth 65536 in
theorem w_t10 : ((((((((((words1.drop 24).drop 24).drop 24).drop 24).drop 24).drop 24).drop 24).drop 24).drop 24).take 24).all (fun c => isCode c || c.before args0 about1) = true := by decide +kernel
set_option maxRecDepth 65536 in
theorem w_t11 : (((((((((((words1.drop 24).drop 24).drop 24).drop 24).drop 24).drop 24).drop 24).drop 24).drop 24).drop 24).take 24).all (fun c => isCode c || c.before args0 about1) = true := by decide +kernel
set_option maxRecDepth 65536 in
theorem w_t12 : ((((((((((((words1.drop 24).drop 24).drop 24).drop 24).drop 24).drop 24).drop 24).drop 24).drop 24).drop 24).drop 24).take 24).all (fun c => isCode c || c.before args0 about1) = true := by decide +kernel
set_option maxRecDepth 65536 in
theorem w_t13 : (((((((((((((words1.drop 24).drop 24).drop 24).drop 24).drop 24).drop 24).drop 24).drop 24).drop 24).drop 24).drop 24).drop 24).take 24).all (fun c => isCode c || c.before args0 about1) = true := by decide +kernel
set_option maxRecDepth 65536 in
theorem w_t14 : ((((((((((((((words1.drop 24).drop 24).drop 24).drop 24).drop 24).drop 24).drop 24).drop 24).drop 24).drop 24).drop 24).drop 24).drop 24).take 24).all (fun c => isCode c || c.before args0 about1) = true := by decide +kernel
set_option maxRecDepth 65536 in
theorem w_t15 : (((((((((((((((words1.drop 24).drop 24).drop 24).drop 24).drop 24).drop 24).drop 24).drop 24).drop 24).drop 24).drop 24).drop 24).drop 24).drop 24).take 24).all (fun c => isCode c || c.before args0 about1) = true := by decide +kernel
set_option maxRecDepth 65536 in
theorem w_t16 : ((((((((((((((((words1.drop 24).drop 24).drop 24).drop 24).drop 24).drop 24).drop 24).drop 24).drop 24).drop 24).drop 24).drop 24).drop 24).drop 24).drop 24).take 24).all (fun c => isCode c || c.before args0 about1) = true := by decide +kernel
set_option maxRecDepth 65536 in
theorem w_t17 : ((((((((((((((((words1.drop 24).drop 24).drop 24).drop 24).drop 24).drop 24).drop 24).drop 24).drop 24).drop 24).drop 24).drop 24).drop 24).drop 24).drop 24).drop 24).all (fun c => isCode c || c.before args0 about1) = true := by decide +kernel
theorem w_tables : (allAtoms (Jvm.Cond.code x code maxLocals ret :: tables_1)).before args0 about1 = true := by
  rw [allAtoms_all]
  show words1.all (fun c => c.before args0 about1) = true
  refine all_split ?_ w_codes
  rw [← List.take_append_drop 24 words1, List.all_append, w_t1, ← List.take_append_drop 24 (words1.drop 24), List.all_append, w_t2, ← List.take_append_drop 24 ((words1.drop 24).drop 24), List.all_append, w_t3, ← List.take_append_drop 24 (((words1.drop 24).drop 24).drop 24), List.all_append, w_t4, ← List.take_append_drop 24 ((((words1.drop 24).drop 24).drop 24).drop 24), List.all_append, w_t5, ← List.take_append_drop 24 (((((words1.drop 24).drop 24).drop 24).drop 24).drop 24), List.all_append, w_t6, ← List.take_append_drop 24 ((((((words1.drop 24).drop 24).drop 24).drop 24).drop 24).drop 24), List.all_append, w_t7, ← List.take_append_drop 24 (((((((words1.drop 24).drop 24).drop 24).drop 24).drop 24).drop 24).drop 24), List.all_append, w_t8, ← List.take_append_drop 24 ((((((((words1.drop 24).drop 24).drop 24).drop 24).drop 24).drop 24).drop 24).drop 24), List.all_append, w_t9, ← List.take_append_drop 24 (((((((((words1.drop 24).drop 24).drop 24).drop 24).drop 24).drop 24).drop 24).drop 24).drop 24), List.all_append, w_t10, ← List.take_append_drop 24 ((((((((((words1.drop 24).drop 24).drop 24).drop 24).drop 24).drop 24).drop 24).drop 24).drop 24).drop 24), List.all_append, w_t11, ← List.take_append_drop 24 (((((((((((words1.drop 24).drop 24).drop 24).drop 24).drop 24).drop 24).drop 24).drop 24).drop 24).drop 24).drop 24), List.all_append, w_t12, ← List.take_append_drop 24 ((((((((((((words1.drop 24).drop 24).drop 24).drop 24).drop 24).drop 24).drop 24).drop 24).drop 24).drop 24).drop 24).drop 24), List.all_append, w_t13, ← List.take_append_drop 24 (((((((((((((words1.drop 24).drop 24).drop 24).drop 24).drop 24).drop 24).drop 24).drop 24).drop 24).drop 24).drop 24).drop 24).drop 24), List.all_append, w_t14, ← List.take_append_drop 24 ((((((((((((((words1.drop 24).drop 24).drop 24).drop 24).drop 24).drop 24).drop 24).drop 24).drop 24).drop 24).drop 24).drop 24).drop 24).drop 24), List.all_append, w_t15, ← List.take_append_drop 24 (((((((((((((((words1.drop 24).drop 24).drop 24).drop 24).drop 24).drop 24).drop 24).drop 24).drop 24).drop 24).drop 24).drop 24).drop 24).drop 24).drop 24), List.all_append, w_t16, w_t17]
  rfl
set_option maxRecDepth 65536 in
theorem w_rest : rest_1_c.before args0 about1 = true := by decide +kernel
set_option maxRecDepth 65536 in
theorem w_case : (Jvm.Cond.and given_1 narrow_1).before args0 about1 = true := by decide +kernel
set_option maxRecDepth 65536 in
theorem w_consts : constsHeld consts_1 about1 := Jvm.Lit.constsHeldB_iff.mp (by decide +kernel)
theorem w_applies : (headSpec (Jvm.Cond.code x code maxLocals ret :: tables_1) room_1).applies x e0.platform about1 = true :=
  (Spec.applies_iff w_frames).mpr ⟨w_running, w_runnable, w_alone, w_named, w_hears, w_ripe, w_room, w_tables⟩
theorem atStart : AtStart classFile x code maxLocals ret World_1 tables_1 room_1 Calls_1 rest_1 Pre_1 launch0 p0 e0 about1 theMethod args0 below0 :=
  ⟨lists_1, trivial, launch0.admits_env _ _ _, launch0.least_env, fairChoices_fair.cas, fairChoices_fair.clock, w_frames, w_args, w_heap, w_applies, ⟨(by decide +kernel : framesKnown about1 = true), ⟨(by decide +kernel : tablesKnown about1 = true), ⟨w_consts, trivial⟩⟩⟩, w_rest, w_case⟩
end start1
theorem witness_1 : WitnessClaimed_1 := ⟨start1.p0, start1.e0, start1.about1, start1.theMethod, start1.args0, start1.below0, start1.atStart⟩
end Jvm.Pilot.@@N@@
