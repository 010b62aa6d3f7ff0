import JvmDerived
import JvmDerived.Pilot.@@N@@Statement
import JvmDerived.Pilot.@@N@@Code
set_option linter.unusedVariables false
set_option linter.unusedSimpArgs false
/- laws to paste: Road.backV, Road.codOf (cut by pick.py; bodies as the Statement names them) -/
namespace Jvm.Pilot.@@N@@
namespace StrChars
open Jvm Sem ClassFile Op Lib Jvm.Stand Jvm.Free.XT Jvm.Free.ALB Jvm.Free.JM Jvm.Free
open Jvm.Lib.Cold (StaticIs)
/-- a char array whose places are chars -/
def Ch (a : Addr) (A : Cell) (U : State) : Prop := Arr .char a A U ∧ Typed .char A
theorem Ch.mv {a : Addr} {A : Cell} {U U' : State} (h : Ch a A U) (hal : U.vm.Alike U'.vm) (hh : U'.heap = U.heap) : Ch a A U' := ⟨h.1.mv hal hh, h.2⟩
theorem Ch.keep {a : Addr} {A : Cell} {U U' : State} (h : Ch a A U) (hal : U.vm.Alike U'.vm) (hk : U'.heap[a]? = some A) : Ch a A U' := ⟨h.1.keep hal hk, h.2⟩
/-- what place i of a char[]'s cell holds -/
def cv (A : Cell) (i : Nat) : Int32 := match A.slots[i]? with | some (.int x) => x | _ => 0
theorem Ch.get {a : Addr} {A : Cell} {U : State} (h : Ch a A U) {i : Nat} (hi : i < A.slots.size) : A.slots[i]? = some (.int (cv A i)) := by
  have e := Array.getElem?_eq_getElem hi
  have f := h.2 i _ e
  unfold cv; rw [e]
  generalize A.slots[i] = v at f
  cases v <;> simp [fits] at f ⊢
/-- the byte that i2b leaves of a char -/
def lo8 (x : Int32) : Int32 := x.toInt8.toInt32
theorem fits_lo8 (y : Int32) : fits .byte (.int (lo8 y)) = true := by
  have h1 := y.toInt8.le_toInt
  have h2 := y.toInt8.toInt_lt
  simp only [lo8, fits, Bool.and_eq_true, decide_eq_true_eq, Int32.le_iff_toInt_le, Int8.toInt_toInt32, show (-128 : Int32).toInt = -128 from by decide, show (127 : Int32).toInt = 127 from by decide]
  omega
/-- A' is A but that each place j of lo .. hi - 1 holds f j -/
def Laid (A A' : Cell) (lo hi : Nat) (f : Nat → Value) : Prop := A'.cls = A.cls ∧ A'.vm = A.vm ∧ A'.slots.size = A.slots.size ∧ ∀ i, A'.slots[i]? = if lo ≤ i ∧ i < hi then some (f i) else A.slots[i]?
theorem Laid.zero (A : Cell) (lo : Nat) (f : Nat → Value) : Laid A A lo (lo + 0) f := ⟨rfl, rfl, rfl, fun i => by rw [if_neg (by omega)]⟩
theorem Laid.step {A Ak : Cell} {lo k : Nat} {f : Nat → Value} {v : Value} (h : Laid A Ak lo k f) (hlo : lo ≤ k) (hk : k < Ak.slots.size) (hv : v = f k) : Laid A (Ak.setSlot k v) lo (k + 1) f := by
  refine ⟨h.1, h.2.1, by simpa [Cell.setSlot] using h.2.2.1, fun i => ?_⟩
  by_cases e : k = i
  · subst e; rw [Cell.slots_setSlot_self v hk, if_pos (by omega), hv]
  · rw [Cell.slots_setSlot_ne v e, h.2.2.2 i]
    by_cases q : lo ≤ i ∧ i < k
    · rw [if_pos q, if_pos (by omega)]
    · rw [if_neg q, if_neg (by omega)]
def U16 : String := "java/lang/StringUTF16"
namespace Cmp5
def yN : MethodName := ⟨"java/lang/StringUTF16", "compress", "([CI[BII)I"⟩
abbrev yB : ByteArray := jdk_52_method_21_code
theorem d0 : decode yB 0 = .ok (.iconst 0, 1) := by decide +kernel
theorem d1 : decode yB 1 = .ok (.istore 5, 2) := by decide +kernel
theorem d3 : decode yB 3 = .ok (.iload 5, 2) := by decide +kernel
theorem d5 : decode yB 5 = .ok (.iload 4, 2) := by decide +kernel
theorem d7 : decode yB 7 = .ok (.if_icmp (.ge) 37, 3) := by decide +kernel
theorem d10 : decode yB 10 = .ok (.aload_n 0, 1) := by decide +kernel
theorem d11 : decode yB 11 = .ok (.iload_n 1, 1) := by decide +kernel
theorem d12 : decode yB 12 = .ok (.caload, 1) := by decide +kernel
theorem d13 : decode yB 13 = .ok (.istore 6, 2) := by decide +kernel
theorem d15 : decode yB 15 = .ok (.iload 6, 2) := by decide +kernel
theorem d17 : decode yB 17 = .ok (.sipush 255, 3) := by decide +kernel
theorem d20 : decode yB 20 = .ok (.if_icmp (.le) 6, 3) := by decide +kernel
theorem d26 : decode yB 26 = .ok (.aload_n 2, 1) := by decide +kernel
theorem d27 : decode yB 27 = .ok (.iload_n 3, 1) := by decide +kernel
theorem d28 : decode yB 28 = .ok (.iload 6, 2) := by decide +kernel
theorem d30 : decode yB 30 = .ok (.i2b, 1) := by decide +kernel
theorem d31 : decode yB 31 = .ok (.bastore, 1) := by decide +kernel
theorem d32 : decode yB 32 = .ok (.iinc 1 1, 3) := by decide +kernel
theorem d35 : decode yB 35 = .ok (.iinc 3 1, 3) := by decide +kernel
theorem d38 : decode yB 38 = .ok (.iinc 5 1, 3) := by decide +kernel
theorem d41 : decode yB 41 = .ok (.goto (-38), 3) := by decide +kernel
theorem d44 : decode yB 44 = .ok (.iload 4, 2) := by decide +kernel
theorem d46 : decode yB 46 = .ok (.ireturn, 1) := by decide +kernel
def site : List Cond := []
def tab : Cond := tabOf yN yB 7 (some .int) site
def P (b : Addr) (A : Cell) (d : Addr) (B : Cell) (o q len : Nat) (args : Array Value) (s : State) : Prop := args = #[.ref b, .int (Int32.ofNat o), .ref d, .int (Int32.ofNat q), .int (Int32.ofNat len)] ∧ Ch b A s ∧ Arr .byte d B s ∧ b ≠ d ∧ o + len ≤ A.slots.size ∧ q + len ≤ B.slots.size ∧ ∀ i, i < len → ¬ 255 < cv A (o + i)
def E (b : Addr) (A : Cell) (d : Addr) (B : Cell) (o q len : Nat) (r : Option Value) (s u : State) : Prop := r = some (.int (Int32.ofNat len)) ∧ ∃ B', Put d B' s u ∧ Laid B B' q (q + len) (fun j => Value.int (lo8 (cv A (o + (j - q)))))
/-- no char of the range above 255: len; the places written hold each char's low byte -/
theorem law (l : Launch) (b : Addr) (A : Cell) (d : Addr) (B : Cell) (o q len : Nat) : Law l yN 5 5 0 0 yB 7 (some .int) site (P b A d B o q len) (E b A d B o q len) (copyLocs d q len) 0 0 := by
  refine Law.of_walk (plainFor_of_name (by decide +kernel)) (by decide +kernel) (by decide +kernel) (by decide) (fun _ _ h => by rw [h.1]; rfl) (fun _ U U' hal hh h => ⟨h.1, h.2.1.mv hal hh, h.2.2.1.mv hal hh, h.2.2.2⟩) (fun r U U' V V' h1 hal h2 h => ⟨h.1, h.2.elim fun B' q => ⟨B', q.1.mv h1 h2, q.2⟩⟩) ?_
  intro p e s m args below meth c s₁ X0 hexec hbytes hml hret hlk hnm hown hh0 W hP
  obtain ⟨rfl, hA, hB, hne, l1, l2, hp⟩ := hP
  have c1 : Steps p.tables e below (s₁.setTop (entryFrame m #[.ref b, .int (Int32.ofNat o), .ref d, .int (Int32.ofNat q), .int (Int32.ofNat len)] 7)) (s₁.setTop (mkF m 0 #[.val (.ref b), .val (.int (Int32.ofNat o)), .val (.ref d), .val (.int (Int32.ofNat q)), .val (.int (Int32.ofNat len)), .unset, .unset] [])) := entry rfl
  have hA0 := hA.1.mv X0.warmed.alike hh0
  have hB0 := hB.mv X0.warmed.alike hh0
  have a31 := hA.1.2.2.2
  have c2 : Steps p.tables e below (s₁.setTop (entryFrame m #[.ref b, .int (Int32.ofNat o), .ref d, .int (Int32.ofNat q), .int (Int32.ofNat len)] 7)) (s₁.setTop (mkF m 3 #[.val (.ref b), .val (.int (Int32.ofNat o)), .val (.ref d), .val (.int (Int32.ofNat q)), .val (.int (Int32.ofNat len)), .val (.int 0), .unset] [])) := c1.trans (by
    refine iconstV X0.here hexec rfl 0 (hb hbytes d0) (by decide) ?_
    refine XS.istore X0.here hexec rfl (hb hbytes d1) rfl rfl ?_
    exact Steps.refl _)
  have loop : ∀ (r i : Nat), i + r = len → ∀ (z : Slot), (z = .unset ∨ ∃ w, z = .val w ∧ w.category = 1) → ∀ (Tl : State) (Bk : Cell), Stand p l e { frames := 0, locals := 0, cells := 0, slots := 0 } s m #[.ref b, .int (Int32.ofNat o), .ref d, .int (Int32.ofNat q), .int (Int32.ofNat len)] below meth c Tl ([] ++ copyLocs d q i) 0 0 → Put d Bk s₁ Tl → Laid B Bk q (q + i) (fun j => Value.int (lo8 (cv A (o + (j - q))))) →
      Steps p.tables e below (s₁.setTop (entryFrame m #[.ref b, .int (Int32.ofNat o), .ref d, .int (Int32.ofNat q), .int (Int32.ofNat len)] 7)) (Tl.setTop (mkF m 3 #[.val (.ref b), .val (.int (Int32.ofNat (o + i))), .val (.ref d), .val (.int (Int32.ofNat (q + i))), .val (.int (Int32.ofNat len)), .val (.int (Int32.ofNat i)), z] [])) → ∃ (T' : State) (B' : Cell) (z' : Slot), Stand p l e { frames := 0, locals := 0, cells := 0, slots := 0 } s m #[.ref b, .int (Int32.ofNat o), .ref d, .int (Int32.ofNat q), .int (Int32.ofNat len)] below meth c T' ([] ++ copyLocs d q len) 0 0 ∧ Put d B' s₁ T' ∧ Laid B B' q (q + len) (fun j => Value.int (lo8 (cv A (o + (j - q))))) ∧
      Steps p.tables e below (s₁.setTop (entryFrame m #[.ref b, .int (Int32.ofNat o), .ref d, .int (Int32.ofNat q), .int (Int32.ofNat len)] 7)) (T'.setTop (mkF m 3 #[.val (.ref b), .val (.int (Int32.ofNat (o + len))), .val (.ref d), .val (.int (Int32.ofNat (q + len))), .val (.int (Int32.ofNat len)), .val (.int (Int32.ofNat len)), z'] [])) := by
    intro r
    induction r with
    | zero =>
      intro i hi z hz Tl Bk Xl pl fl cl
      have hil : i = len := by omega
      rw [hil] at Xl fl cl
      exact ⟨Tl, Bk, z, Xl, pl, fl, cl⟩
    | succ r ih =>
      intro i hi z hz Tl Bk Xl pl fl cl
      have all := X0.warmed.alike.symm.trans Xl.warmed.alike
      have hAl := hA0.keep all (pl.other hne hA0.1)
      have hBk := hB0.like all pl.1 fl.1 fl.2.1 fl.2.2.1
      have hlt : q + i < Bk.slots.size := by rw [fl.2.2.1]; omega
      have c3 : Steps p.tables e below (s₁.setTop (entryFrame m #[.ref b, .int (Int32.ofNat o), .ref d, .int (Int32.ofNat q), .int (Int32.ofNat len)] 7)) (Tl.setTop (mkF m 12 #[.val (.ref b), .val (.int (Int32.ofNat (o + i))), .val (.ref d), .val (.int (Int32.ofNat (q + i))), .val (.int (Int32.ofNat len)), .val (.int (Int32.ofNat i)), z] [.int (Int32.ofNat (o + i)), .ref b])) := cl.trans (by
        refine XS.iload Xl.here hexec rfl (hb hbytes d3) rfl ?_
        refine XS.iload Xl.here hexec rfl (hb hbytes d5) rfl ?_
        refine XS.icmpNo Xl.here hexec rfl (hb hbytes d7) rfl (ii_ge_f (lt32 (by omega) (by omega))) ?_
        refine XS.aloadN Xl.here hexec rfl (hb hbytes d10) rfl rfl ?_
        refine XS.iloadN Xl.here hexec rfl (hb hbytes d11) rfl ?_
        exact Steps.refl _)
      have c4 : Steps p.tables e below (s₁.setTop (entryFrame m #[.ref b, .int (Int32.ofNat o), .ref d, .int (Int32.ofNat q), .int (Int32.ofNat len)] 7)) (Tl.setTop (mkF m 13 #[.val (.ref b), .val (.int (Int32.ofNat (o + i))), .val (.ref d), .val (.int (Int32.ofNat (q + i))), .val (.int (Int32.ofNat len)), .val (.int (Int32.ofNat i)), z] [.int (cv A (o + i))])) := c3.trans (by
        refine Xl.aget hexec hAl rfl (hA.get (i := o + i) (by omega)) rfl rfl (hb hbytes d12) ?_
        exact Steps.refl _)
      have c5 : Steps p.tables e below (s₁.setTop (entryFrame m #[.ref b, .int (Int32.ofNat o), .ref d, .int (Int32.ofNat q), .int (Int32.ofNat len)] 7)) (Tl.setTop (mkF m 15 #[.val (.ref b), .val (.int (Int32.ofNat (o + i))), .val (.ref d), .val (.int (Int32.ofNat (q + i))), .val (.int (Int32.ofNat len)), .val (.int (Int32.ofNat i)), .val (.int (cv A (o + i)))] [])) := c4.trans (by
        refine XS.istoreS Xl.here hexec rfl (hb hbytes d13) rfl rfl hz ?_
        exact Steps.refl _)
      have c6 : Steps p.tables e below (s₁.setTop (entryFrame m #[.ref b, .int (Int32.ofNat o), .ref d, .int (Int32.ofNat q), .int (Int32.ofNat len)] 7)) (Tl.setTop (mkF m 31 #[.val (.ref b), .val (.int (Int32.ofNat (o + i))), .val (.ref d), .val (.int (Int32.ofNat (q + i))), .val (.int (Int32.ofNat len)), .val (.int (Int32.ofNat i)), .val (.int (cv A (o + i)))] [.int (lo8 (cv A (o + i))), .int (Int32.ofNat (q + i)), .ref d])) := c5.trans (by
        refine XS.iload Xl.here hexec rfl (hb hbytes d15) rfl ?_
        refine sipushV Xl.here hexec rfl 255 (hb hbytes d17) (by decide) ?_
        refine XS.icmpYes Xl.here hexec rfl (pc0 := 20) rfl (hb hbytes d20) rfl (ii_le_t (hp i (by omega))) (by decide) rfl ?_
        refine XS.aloadN Xl.here hexec rfl (hb hbytes d26) rfl rfl ?_
        refine XS.iloadN Xl.here hexec rfl (hb hbytes d27) rfl ?_
        refine XS.iload Xl.here hexec rfl (hb hbytes d28) rfl ?_
        refine i2b Xl.here hexec rfl (hb hbytes d30) rfl ?_
        exact Steps.refl _)
      obtain ⟨T7, X7, p7, st7⟩ := Xl.aput hexec hBk rfl hlt rfl (fits_lo8 (cv A (o + i))) (g := (mkF m 31 #[.val (.ref b), .val (.int (Int32.ofNat (o + i))), .val (.ref d), .val (.int (Int32.ofNat (q + i))), .val (.int (Int32.ofNat len)), .val (.int (Int32.ofNat i)), .val (.int (cv A (o + i)))] [.int (lo8 (cv A (o + i))), .int (Int32.ofNat (q + i)), .ref d])) rfl (rest := []) rfl (hb hbytes d31)
      have c8 : Steps p.tables e below (s₁.setTop (entryFrame m #[.ref b, .int (Int32.ofNat o), .ref d, .int (Int32.ofNat q), .int (Int32.ofNat len)] 7)) (T7.setTop (mkF m 32 #[.val (.ref b), .val (.int (Int32.ofNat (o + i))), .val (.ref d), .val (.int (Int32.ofNat (q + i))), .val (.int (Int32.ofNat len)), .val (.int (Int32.ofNat i)), .val (.int (cv A (o + i)))] [])) := c6.trans (st7 _ (Steps.refl _))
      have c9 : Steps p.tables e below (s₁.setTop (entryFrame m #[.ref b, .int (Int32.ofNat o), .ref d, .int (Int32.ofNat q), .int (Int32.ofNat len)] 7)) (T7.setTop (mkF m 3 #[.val (.ref b), .val (.int (Int32.ofNat (o + i) + 1)), .val (.ref d), .val (.int (Int32.ofNat (q + i) + 1)), .val (.int (Int32.ofNat len)), .val (.int (Int32.ofNat i + 1)), .val (.int (cv A (o + i)))] [])) := c8.trans (by
        refine iincV X7.here hexec rfl 1 (hb hbytes d32) (by decide) rfl rfl ?_
        refine iincV X7.here hexec rfl 1 (hb hbytes d35) (by decide) rfl rfl ?_
        refine iincV X7.here hexec rfl 1 (hb hbytes d38) (by decide) rfl rfl ?_
        refine XS.goto X7.here hexec rfl (pc0 := 41) rfl (hb hbytes d41) (by decide) rfl ?_
        exact Steps.refl _)
      have c10 : Steps p.tables e below (s₁.setTop (entryFrame m #[.ref b, .int (Int32.ofNat o), .ref d, .int (Int32.ofNat q), .int (Int32.ofNat len)] 7)) (T7.setTop (mkF m 3 #[.val (.ref b), .val (.int (Int32.ofNat (o + (i + 1)))), .val (.ref d), .val (.int (Int32.ofNat (q + (i + 1)))), .val (.int (Int32.ofNat len)), .val (.int (Int32.ofNat (i + 1))), .val (.int (cv A (o + i)))] [])) := by
        have := c9
        rw [succ32, succ32, succ32] at this
        exact this
      exact ih (i + 1) (by omega) _ (Or.inr ⟨_, rfl, rfl⟩) T7 _ (by rw [copyLocs_step, ← List.append_assoc]; exact X7) (pl.trans p7) (fl.step (by omega) hlt (by simp)) c10
  obtain ⟨T9, B9, z9, X9, p9, f9, g9⟩ := loop len 0 (by omega) .unset (Or.inl rfl) s₁ B (by simpa [copyLocs] using X0) ⟨hB0.1, fun _ _ => rfl, rfl⟩ (Laid.zero _ _ _) c2
  have c11 : Steps p.tables e below (s₁.setTop (entryFrame m #[.ref b, .int (Int32.ofNat o), .ref d, .int (Int32.ofNat q), .int (Int32.ofNat len)] 7)) (T9.setTop (mkF m 46 #[.val (.ref b), .val (.int (Int32.ofNat (o + len))), .val (.ref d), .val (.int (Int32.ofNat (q + len))), .val (.int (Int32.ofNat len)), .val (.int (Int32.ofNat len)), z9] [.int (Int32.ofNat len)])) := g9.trans (by
    refine XS.iload X9.here hexec rfl (hb hbytes d3) rfl ?_
    refine XS.iload X9.here hexec rfl (hb hbytes d5) rfl ?_
    refine XS.icmpYes X9.here hexec rfl (pc0 := 7) rfl (hb hbytes d7) rfl (ii_ge_t (nlt32 (by omega) (Nat.le_refl _))) (by decide) rfl ?_
    refine XS.iload X9.here hexec rfl (hb hbytes d44) rfl ?_
    exact Steps.refl _)
  exact ⟨T9, some (.int (Int32.ofNat len)), _, _, _, X9, by simp, rfl, rfl, (fun h => by cases h), ⟨rfl, B9, p9.from hh0, f9⟩, fun fs hl => c11.trans (X9.ireturnOut hexec hret rfl (Or.inl rfl) (hb hbytes d46) hl)⟩
end Cmp5
namespace Cmp3
def yN : MethodName := ⟨"java/lang/StringUTF16", "compress", "([CII)[B"⟩
abbrev yB : ByteArray := jdk_52_method_16_code
theorem d0 : decode yB 0 = .ok (.iload_n 2, 1) := by decide +kernel
theorem d1 : decode yB 1 = .ok (.newarray .byte, 2) := by decide +kernel
theorem d3 : decode yB 3 = .ok (.astore_n 3, 1) := by decide +kernel
theorem d4 : decode yB 4 = .ok (.aload_n 0, 1) := by decide +kernel
theorem d5 : decode yB 5 = .ok (.iload_n 1, 1) := by decide +kernel
theorem d6 : decode yB 6 = .ok (.aload_n 3, 1) := by decide +kernel
theorem d7 : decode yB 7 = .ok (.iconst 0, 1) := by decide +kernel
theorem d8 : decode yB 8 = .ok (.iload_n 2, 1) := by decide +kernel
theorem d9 : decode yB 9 = .ok (.invokestatic 115, 3) := by decide +kernel
theorem d12 : decode yB 12 = .ok (.istore 4, 2) := by decide +kernel
theorem d14 : decode yB 14 = .ok (.iload 4, 2) := by decide +kernel
theorem d16 : decode yB 16 = .ok (.iload_n 2, 1) := by decide +kernel
theorem d17 : decode yB 17 = .ok (.if_icmp (.eq) 40, 3) := by decide +kernel
theorem d57 : decode yB 57 = .ok (.aload_n 3, 1) := by decide +kernel
theorem d58 : decode yB 58 = .ok (.areturn, 1) := by decide +kernel
def site : List Cond := [.arrayClass .byte, Cmp5.tab] ++ staticW U16 115 Cmp5.yN
def tab : Cond := tabOf yN yB 6 (some (.array .byte)) site
def P (b : Addr) (A : Cell) (o len : Nat) (args : Array Value) (s : State) : Prop := args = #[.ref b, .int (Int32.ofNat o), .int (Int32.ofNat len)] ∧ Ch b A s ∧ o + len ≤ A.slots.size ∧ len ≤ 536870912 ∧ ∀ i, i < len → ¬ 255 < cv A (o + i)
def E (b : Addr) (A : Cell) (o len : Nat) (r : Option Value) (s u : State) : Prop := NewArr .byte "[B" len (fun j => .int (lo8 (cv A (o + j)))) r s u ∧ u.heap.size = s.heap.size + 1
/-- no char of the range above 255: a new byte[] of their low bytes -/
theorem law (l : Launch) (b : Addr) (A : Cell) (o len : Nat) : Law l yN 3 3 1 18 yB 6 (some (.array .byte)) site (P b A o len) (E b A o len) [] 1 len := by
  refine Law.of_walk (plainFor_of_name (by decide +kernel)) (by decide +kernel) (by decide +kernel) (by decide) (fun _ _ h => by rw [h.1]; rfl) (fun _ U U' hal hh h => ⟨h.1, h.2.1.mv hal hh, h.2.2⟩) (fun r U U' V V' h1 hal h2 h => ⟨NewArr.mv r U U' V V' h1 hal h2 h.1, by rw [h1, h2]; exact h.2⟩) ?_
  intro p e s m args below meth c s₁ X0 hexec hbytes hml hret hlk hnm hown hh0 W hP
  obtain ⟨rfl, hA, l1, l2, hp⟩ := hP
  have a31 := hA.1.2.2.2
  have c1 : Steps p.tables e below (s₁.setTop (entryFrame m #[.ref b, .int (Int32.ofNat o), .int (Int32.ofNat len)] 6)) (s₁.setTop (mkF m 0 #[.val (.ref b), .val (.int (Int32.ofNat o)), .val (.int (Int32.ofNat len)), .unset, .unset, .unset] [])) := entry rfl
  have c2 : Steps p.tables e below (s₁.setTop (entryFrame m #[.ref b, .int (Int32.ofNat o), .int (Int32.ofNat len)] 6)) (s₁.setTop (mkF m 1 #[.val (.ref b), .val (.int (Int32.ofNat o)), .val (.int (Int32.ofNat len)), .unset, .unset, .unset] [.int (Int32.ofNat len)])) := c1.trans (by
    refine XS.iloadN X0.here hexec rfl (hb hbytes d0) rfl ?_
    exact Steps.refl _)
  obtain ⟨T3, B3, X3, ba3, bs3, bv3, bh3, bf3, st3⟩ := X0.anew hexec (atype := .byte) (wk W (.arrayClass .byte)) rfl (by show len * 1 ≤ _; omega) (by omega) (g := (mkF m 1 #[.val (.ref b), .val (.int (Int32.ofNat o)), .val (.int (Int32.ofNat len)), .unset, .unset, .unset] [.int (Int32.ofNat len)])) rfl (hb hbytes d1) (rest := []) rfl (Nat.le_refl _) (by show 0 + len ≤ len; omega)
  rw [hh0] at ba3 st3
  have kp3 : XT.Kept s T3 := (XT.Kept.of_eq hh0).push bh3
  have hA3 := hA.keep X3.warmed.alike (kp3 _ _ hA.1.1)
  have hne : b ≠ s.heap.size := hA.1.ne
  have c4 : Steps p.tables e below (s₁.setTop (entryFrame m #[.ref b, .int (Int32.ofNat o), .int (Int32.ofNat len)] 6)) (T3.setTop (mkF m 3 #[.val (.ref b), .val (.int (Int32.ofNat o)), .val (.int (Int32.ofNat len)), .unset, .unset, .unset] [.ref s.heap.size])) := c2.trans (st3 _ (Steps.refl _))
  have c5 : Steps p.tables e below (s₁.setTop (entryFrame m #[.ref b, .int (Int32.ofNat o), .int (Int32.ofNat len)] 6)) (T3.setTop (mkF m 9 #[.val (.ref b), .val (.int (Int32.ofNat o)), .val (.int (Int32.ofNat len)), .val (.ref s.heap.size), .unset, .unset] [.int (Int32.ofNat len), .int 0, .ref s.heap.size, .int (Int32.ofNat o), .ref b])) := c4.trans (by
    refine XS.astoreN X3.here hexec rfl (hb hbytes d3) rfl rfl rfl ?_
    refine XS.aloadN X3.here hexec rfl (hb hbytes d4) rfl rfl ?_
    refine XS.iloadN X3.here hexec rfl (hb hbytes d5) rfl ?_
    refine XS.aloadN X3.here hexec rfl (hb hbytes d6) rfl rfl ?_
    refine iconstV X3.here hexec rfl 0 (hb hbytes d7) (by decide) ?_
    refine XS.iloadN X3.here hexec rfl (hb hbytes d8) rfl ?_
    exact Steps.refl _)
  obtain ⟨v6, T6, X6, E6, g6⟩ := X3.callS hexec (Cmp5.law l b A s.heap.size B3 o 0 len) hown (wks W (staticW U16 115 Cmp5.yN)) (wk W Cmp5.tab) (W := 0) (Nat.le_of_ble_eq_true rfl) (Nat.le_of_ble_eq_true rfl) (Nat.le_refl _) (by show 0 + len + 0 ≤ len; omega) (g := (mkF m 9 #[.val (.ref b), .val (.int (Int32.ofNat o)), .val (.int (Int32.ofNat len)), .val (.ref s.heap.size), .unset, .unset] [.int (Int32.ofNat len), .int (Int32.ofNat 0), .ref s.heap.size, .int (Int32.ofNat o), .ref b])) rfl (by rw [hml]; rfl) c5 (argsL := [.ref b, .int (Int32.ofNat o), .ref s.heap.size, .int (Int32.ofNat 0), .int (Int32.ofNat len)]) (rest := []) rfl rfl (by show 2 * 0 + 0 ≤ _; decide) (hb hbytes d9) (⟨rfl, hA3, ba3, hne, l1, by rw [bs3]; simp, hp⟩)
  obtain ⟨rfl, B6, p6, f6⟩ := E6
  have c7 : Steps p.tables e below (s₁.setTop (entryFrame m #[.ref b, .int (Int32.ofNat o), .int (Int32.ofNat len)] 6)) (T6.setTop (mkF m 12 #[.val (.ref b), .val (.int (Int32.ofNat o)), .val (.int (Int32.ofNat len)), .val (.ref s.heap.size), .unset, .unset] [.int (Int32.ofNat len)])) := g6
  have c8 : Steps p.tables e below (s₁.setTop (entryFrame m #[.ref b, .int (Int32.ofNat o), .int (Int32.ofNat len)] 6)) (T6.setTop (mkF m 58 #[.val (.ref b), .val (.int (Int32.ofNat o)), .val (.int (Int32.ofNat len)), .val (.ref s.heap.size), .val (.int (Int32.ofNat len)), .unset] [.ref s.heap.size])) := c7.trans (by
    refine XS.istore X6.here hexec rfl (hb hbytes d12) rfl rfl ?_
    refine XS.iload X6.here hexec rfl (hb hbytes d14) rfl ?_
    refine XS.iloadN X6.here hexec rfl (hb hbytes d16) rfl ?_
    refine XS.icmpYes X6.here hexec rfl (pc0 := 17) rfl (hb hbytes d17) rfl (ii_eq_t rfl) (by decide) rfl ?_
    refine XS.aloadN X6.here hexec rfl (hb hbytes d57) rfl rfl ?_
    exact Steps.refl _)
  have X8 := X6.wide (L' := []) (cells' := 1) (slots' := len) (fun x hx hlt => by
    simp only [List.nil_append, copyLocs, List.mem_map, List.mem_range] at hx
    obtain ⟨i, -, rfl⟩ := hx
    exact absurd hlt (Nat.lt_irrefl _)) (Nat.le_refl _) (by omega)
  exact ⟨T6, some (.ref s.heap.size), _, _, _, X8, rfl, rfl, rfl, (fun h => by cases h), ⟨⟨rfl, B6, ba3.like (X3.warmed.alike.symm.trans X6.warmed.alike) p6.1 f6.1 f6.2.1 f6.2.2.1, f6.2.1.trans bv3, by rw [X6.warmed.alike.findClass, f6.1]; exact bf3, by rw [f6.2.2.1, bs3]; simp, fun j hj => by rw [f6.2.2.2 j, if_pos (by omega)]; rfl, kp3.put p6 (Nat.le_refl _)⟩, by rw [p6.2.2, bh3, hh0]; simp⟩, fun fs hl => c8.trans (X8.areturnOut hexec rfl hret rfl (hb hbytes d58) hl)⟩
end Cmp3
namespace CodL
def yN : MethodName := ⟨"java/lang/StringUTF16", "coderFromArrayLen", "([BI)B"⟩
abbrev yB : ByteArray := jdk_52_method_15_code
theorem d0 : decode yB 0 = .ok (.iload_n 1, 1) := by decide +kernel
theorem d1 : decode yB 1 = .ok (.aload_n 0, 1) := by decide +kernel
theorem d2 : decode yB 2 = .ok (.arraylength, 1) := by decide +kernel
theorem d3 : decode yB 3 = .ok (.isub, 1) := by decide +kernel
theorem d4 : decode yB 4 = .ok (.bipush 31, 2) := by decide +kernel
theorem d6 : decode yB 6 = .ok (.iushr, 1) := by decide +kernel
theorem d7 : decode yB 7 = .ok (.i2b, 1) := by decide +kernel
theorem d8 : decode yB 8 = .ok (.ireturn, 1) := by decide +kernel
def site : List Cond := []
def tab : Cond := tabOf yN yB 2 (some .byte) site
def P (d : Addr) (B : Cell) (args : Array Value) (s : State) : Prop := args = #[.ref d, .int (Int32.ofNat B.slots.size)] ∧ Arr .byte d B s
def E (r : Option Value) (s u : State) : Prop := XT.PureE (some (.int 0)) r s u
/-- an array as long as the number of chars: LATIN1 -/
theorem law (l : Launch) (d : Addr) (B : Cell) : Law l yN 2 2 0 0 yB 2 (some .byte) site (P d B) E [] 0 0 := by
  refine Law.of_walk (plainFor_of_name (by decide +kernel)) (by decide +kernel) (by decide +kernel) (by decide) (fun _ _ h => by rw [h.1]; rfl) (fun _ U U' hal hh h => ⟨h.1, h.2.mv hal hh⟩) (fun r U U' V V' h1 hal h2 h => XT.PureE.mv r U U' V V' h1 hal h2 h) ?_
  intro p e s m args below meth c s₁ X0 hexec hbytes hml hret hlk hnm hown hh0 W hP
  obtain ⟨rfl, hB⟩ := hP
  have hB0 := hB.mv X0.warmed.alike hh0
  have c1 : Steps p.tables e below (s₁.setTop (entryFrame m #[.ref d, .int (Int32.ofNat B.slots.size)] 2)) (s₁.setTop (mkF m 0 #[.val (.ref d), .val (.int (Int32.ofNat B.slots.size))] [])) := entry rfl
  have c2 : Steps p.tables e below (s₁.setTop (entryFrame m #[.ref d, .int (Int32.ofNat B.slots.size)] 2)) (s₁.setTop (mkF m 2 #[.val (.ref d), .val (.int (Int32.ofNat B.slots.size))] [.ref d, .int (Int32.ofNat B.slots.size)])) := c1.trans (by
    refine XS.iloadN X0.here hexec rfl (hb hbytes d0) rfl ?_
    refine XS.aloadN X0.here hexec rfl (hb hbytes d1) rfl rfl ?_
    exact Steps.refl _)
  have c3 : Steps p.tables e below (s₁.setTop (entryFrame m #[.ref d, .int (Int32.ofNat B.slots.size)] 2)) (s₁.setTop (mkF m 8 #[.val (.ref d), .val (.int (Int32.ofNat B.slots.size))] [.int (lo8 (ushr (Int32.ofNat B.slots.size - Int32.ofNat B.slots.size) 31))])) := c2.trans (by
    refine X0.alen hexec hB0 rfl rfl (hb hbytes d2) ?_
    refine XS.isub X0.here hexec rfl (hb hbytes d3) rfl ?_
    refine bipushV X0.here hexec rfl 31 (hb hbytes d4) (by decide) ?_
    refine iushr X0.here hexec rfl (hb hbytes d6) rfl ?_
    refine i2b X0.here hexec rfl (hb hbytes d7) rfl ?_
    exact Steps.refl _)
  have e0 : lo8 (ushr (Int32.ofNat B.slots.size - Int32.ofNat B.slots.size) 31) = 0 := by rw [Int32.sub_self]; decide
  rw [e0] at c3
  exact ⟨s₁, some (.int 0), _, _, _, X0, rfl, rfl, rfl, (fun h => by cases h), ⟨rfl, hh0⟩, fun fs hl => c3.trans (X0.ireturnOut hexec hret rfl (Or.inr (Or.inr (Or.inl rfl))) (hb hbytes d8) hl)⟩
end CodL
/-- the String at a is Latin-1 over a new byte[] (the heap's one new cell): the low bytes of the len chars of A from o on; every cell but a is kept -/
def Got (a : Addr) (D : Cell) (fV fC : Field) (A : Cell) (o len : Nat) (r : Option Value) (s u : State) : Prop := r = none ∧ ∃ D' V : Cell, Blank "java/lang/String" a D' u ∧ Same D D' [fV.slot, fC.slot] ∧ D'.slots[fV.slot]? = some (.ref s.heap.size) ∧ D'.slots[fC.slot]? = some (.int 0) ∧ Arr .byte s.heap.size V u ∧ V.vm = .none ∧ u.vm.findClass "[B" = some V.cls ∧ V.slots.size = len ∧ (∀ j, j < len → V.slots[j]? = some (.int (lo8 (cv A (o + j))))) ∧ (∀ (y : Addr) (c : Cell), y ≠ a → s.heap[y]? = some c → u.heap[y]? = some c) ∧ u.heap.size = s.heap.size + 1
theorem Got.mv {a : Addr} {D A : Cell} {fV fC : Field} {o len : Nat} : ∀ r (U U' V V' : State), U'.heap = U.heap → V.vm.Alike V'.vm → V'.heap = V.heap → Got a D fV fC A o len r U V → Got a D fV fC A o len r U' V' :=
  fun r U U' V V' h1 hal h2 ⟨e0, D', X, a1, a2, a3, a4, a5, a6, a7, a8, a9, a10, a11⟩ => ⟨e0, D', X, a1.mv hal h2, a2, by rw [h1]; exact a3, a4, by rw [h1]; exact a5.mv hal h2, a6, by rw [hal.findClass]; exact a7, a8, a9, by rw [h1, h2]; exact a10, by rw [h1, h2]; exact a11⟩
namespace New4
def yN : MethodName := ⟨"java/lang/String", "<init>", "([CIILjava/lang/Void;)V"⟩
abbrev yB : ByteArray := jdk_42_method_149_code
theorem d0 : decode yB 0 = .ok (.aload_n 0, 1) := by decide +kernel
theorem d1 : decode yB 1 = .ok (.invokespecial 1, 3) := by decide +kernel
theorem d4 : decode yB 4 = .ok (.iload_n 3, 1) := by decide +kernel
theorem d5 : decode yB 5 = .ok (.ifCond (.ne) 22, 3) := by decide +kernel
theorem d27 : decode yB 27 = .ok (.getstatic 38, 3) := by decide +kernel
theorem d30 : decode yB 30 = .ok (.ifCond (.eq) 28, 3) := by decide +kernel
theorem d33 : decode yB 33 = .ok (.aload_n 1, 1) := by decide +kernel
theorem d34 : decode yB 34 = .ok (.iload_n 2, 1) := by decide +kernel
theorem d35 : decode yB 35 = .ok (.iload_n 3, 1) := by decide +kernel
theorem d36 : decode yB 36 = .ok (.invokestatic 177, 3) := by decide +kernel
theorem d39 : decode yB 39 = .ok (.astore 5, 2) := by decide +kernel
theorem d41 : decode yB 41 = .ok (.aload_n 0, 1) := by decide +kernel
theorem d42 : decode yB 42 = .ok (.aload 5, 2) := by decide +kernel
theorem d44 : decode yB 44 = .ok (.iload_n 3, 1) := by decide +kernel
theorem d45 : decode yB 45 = .ok (.invokestatic 47, 3) := by decide +kernel
theorem d48 : decode yB 48 = .ok (.putfield 15, 3) := by decide +kernel
theorem d51 : decode yB 51 = .ok (.aload_n 0, 1) := by decide +kernel
theorem d52 : decode yB 52 = .ok (.aload 5, 2) := by decide +kernel
theorem d54 : decode yB 54 = .ok (.putfield 9, 3) := by decide +kernel
theorem d57 : decode yB 57 = .ok (.return_, 1) := by decide +kernel
def site : List Cond := [.fieldLink "java/lang/String" 38 "java/lang/String" "COMPACT_STRINGS" "Z", Cmp3.tab, CodL.tab, .laysFinal "java/lang/String" "java/lang/String" "value" "[B", .fieldLink "java/lang/String" 9 "java/lang/String" "value" "[B", .laysFinal "java/lang/String" "java/lang/String" "coder" "B", .fieldLink "java/lang/String" 15 "java/lang/String" "coder" "B"] ++ objW "java/lang/String" 1 ++ staticW "java/lang/String" 177 Cmp3.yN ++ staticW "java/lang/String" 47 CodL.yN
def tab : Cond := tabOf yN yB 6 none site
def P (a : Addr) (D : Cell) (fV fC : Field) (b : Addr) (A : Cell) (z : Int32) (o len : Nat) (args : Array Value) (s : State) : Prop := args = #[.ref a, .ref b, .int (Int32.ofNat o), .int (Int32.ofNat len), .null] ∧ Blank "java/lang/String" a D s ∧ Found "java/lang/String" "value" "[B" fV s ∧ Found "java/lang/String" "coder" "B" fC s ∧ Ch b A s ∧ StaticIs s "java/lang/String" "COMPACT_STRINGS" "Z" (.int z) ∧ ¬ z = 0 ∧ 0 < len ∧ o + len ≤ A.slots.size ∧ len ≤ 536870912 ∧ ∀ i, i < len → ¬ 255 < cv A (o + i)
def E (a : Addr) (D : Cell) (fV fC : Field) (A : Cell) (o len : Nat) (r : Option Value) (s u : State) : Prop := Got a D fV fC A o len r s u
/-- len > 0, no char of the range above 255: a Latin-1 String of their low bytes -/
theorem law (l : Launch) (a : Addr) (D : Cell) (fV fC : Field) (b : Addr) (A : Cell) (z : Int32) (o len : Nat) : Law l yN 5 4 2 35 yB 6 none site (P a D fV fC b A z o len) (E a D fV fC A o len) [⟨a, fC.slot⟩, ⟨a, fV.slot⟩] 1 len := by
  refine Law.of_walk (plainFor_of_name (by decide +kernel)) (by decide +kernel) (by decide +kernel) (by decide) (fun _ _ h => by rw [h.1]; rfl) (fun _ U U' hal hh h => ⟨h.1, h.2.1.mv hal hh, h.2.2.1.al hal, h.2.2.2.1.al hal, h.2.2.2.2.1.mv hal hh, h.2.2.2.2.2.1.there hal hh, h.2.2.2.2.2.2⟩) (fun r U U' V V' h1 hal h2 h => Got.mv r U U' V V' h1 hal h2 h) ?_
  intro p e s m args below meth c s₁ X0 hexec hbytes hml hret hlk hnm hown hh0 W hP
  obtain ⟨rfl, hB, f1, f2, hA, s1, hz, l0, l1, l2, hp⟩ := hP
  have a31 := hA.1.2.2.2
  have c1 : Steps p.tables e below (s₁.setTop (entryFrame m #[.ref a, .ref b, .int (Int32.ofNat o), .int (Int32.ofNat len), .null] 6)) (s₁.setTop (mkF m 0 #[.val (.ref a), .val (.ref b), .val (.int (Int32.ofNat o)), .val (.int (Int32.ofNat len)), .val .null, .unset] [])) := entry rfl
  have c2 : Steps p.tables e below (s₁.setTop (entryFrame m #[.ref a, .ref b, .int (Int32.ofNat o), .int (Int32.ofNat len), .null] 6)) (s₁.setTop (mkF m 1 #[.val (.ref a), .val (.ref b), .val (.int (Int32.ofNat o)), .val (.int (Int32.ofNat len)), .val .null, .unset] [.ref a])) := c1.trans (by
    refine XS.aloadN X0.here hexec rfl (hb hbytes d0) rfl rfl ?_
    exact Steps.refl _)
  obtain ⟨T3, X3, q3, st3⟩ := X0.oinit hexec hown (wks W (objW "java/lang/String" 1)) (g := (mkF m 1 #[.val (.ref a), .val (.ref b), .val (.int (Int32.ofNat o)), .val (.int (Int32.ofNat len)), .val .null, .unset] [.ref a])) rfl (by rw [hml]; rfl) (rest := []) rfl (hb hbytes d1) (W := 0) (by show 2 * 0 + 0 ≤ _; decide) (Nat.le_of_ble_eq_true rfl) (Nat.le_of_ble_eq_true rfl)
  have hh3 := q3.trans hh0
  have c4 : Steps p.tables e below (s₁.setTop (entryFrame m #[.ref a, .ref b, .int (Int32.ofNat o), .int (Int32.ofNat len), .null] 6)) (T3.setTop (mkF m 27 #[.val (.ref a), .val (.ref b), .val (.int (Int32.ofNat o)), .val (.int (Int32.ofNat len)), .val .null, .unset] [])) := (c2.trans (st3 _ (Steps.refl _))).trans (by
    refine XS.iloadN X3.here hexec rfl (hb hbytes d4) rfl ?_
    refine XS.ifYes X3.here hexec rfl (pc0 := 5) rfl (hb hbytes d5) rfl (i0_ne_t (nz32 (by omega) l0)) (by decide) rfl ?_
    exact Steps.refl _)
  obtain ⟨T5, X5, q5, st5⟩ := X3.sget hexec hown (wk W (.fieldLink "java/lang/String" 38 "java/lang/String" "COMPACT_STRINGS" "Z")) s1 (fun _ _ h => by rw [hh3]; exact h) (g := (mkF m 27 #[.val (.ref a), .val (.ref b), .val (.int (Int32.ofNat o)), .val (.int (Int32.ofNat len)), .val .null, .unset] [])) rfl (hb hbytes d27)
  have hh5 := q5.trans hh3
  have c6 : Steps p.tables e below (s₁.setTop (entryFrame m #[.ref a, .ref b, .int (Int32.ofNat o), .int (Int32.ofNat len), .null] 6)) (T5.setTop (mkF m 30 #[.val (.ref a), .val (.ref b), .val (.int (Int32.ofNat o)), .val (.int (Int32.ofNat len)), .val .null, .unset] [.int z])) := c4.trans (st5 _ (Steps.refl _))
  have c7 : Steps p.tables e below (s₁.setTop (entryFrame m #[.ref a, .ref b, .int (Int32.ofNat o), .int (Int32.ofNat len), .null] 6)) (T5.setTop (mkF m 36 #[.val (.ref a), .val (.ref b), .val (.int (Int32.ofNat o)), .val (.int (Int32.ofNat len)), .val .null, .unset] [.int (Int32.ofNat len), .int (Int32.ofNat o), .ref b])) := c6.trans (by
    refine XS.ifNo X5.here hexec rfl (hb hbytes d30) rfl (i0_eq_f hz) ?_
    refine XS.aloadN X5.here hexec rfl (hb hbytes d33) rfl rfl ?_
    refine XS.iloadN X5.here hexec rfl (hb hbytes d34) rfl ?_
    refine XS.iloadN X5.here hexec rfl (hb hbytes d35) rfl ?_
    exact Steps.refl _)
  obtain ⟨v8, T8, X8, E8, g8⟩ := X5.callS hexec (Cmp3.law l b A o len) hown (wks W (staticW "java/lang/String" 177 Cmp3.yN)) (wk W Cmp3.tab) (W := 0) (Nat.le_of_ble_eq_true rfl) (Nat.le_of_ble_eq_true rfl) (Nat.le_refl _) (by show 0 + len ≤ len; omega) (g := (mkF m 36 #[.val (.ref a), .val (.ref b), .val (.int (Int32.ofNat o)), .val (.int (Int32.ofNat len)), .val .null, .unset] [.int (Int32.ofNat len), .int (Int32.ofNat o), .ref b])) rfl (by rw [hml]; rfl) c7 (argsL := [.ref b, .int (Int32.ofNat o), .int (Int32.ofNat len)]) (rest := []) rfl rfl (by show 2 * 0 + 0 ≤ _; decide) (hb hbytes d36) (⟨rfl, hA.mv X5.warmed.alike hh5, l1, l2, hp⟩)
  obtain ⟨e8, z8⟩ := E8
  obtain ⟨rfl, N, n1, n2, n3, n4, n5, n6⟩ := NewArr.mv _ T5 s _ _ hh5.symm (Vm.Alike.refl _) rfl e8
  rw [hh5] at z8
  have hB1 := hB.keep X8.warmed.alike (n6 _ _ hB.1)
  have hne : s.heap.size ≠ a := (Nat.ne_of_lt (Array.getElem?_eq_some_iff.mp hB.1).1).symm
  have c9 : Steps p.tables e below (s₁.setTop (entryFrame m #[.ref a, .ref b, .int (Int32.ofNat o), .int (Int32.ofNat len), .null] 6)) (T8.setTop (mkF m 39 #[.val (.ref a), .val (.ref b), .val (.int (Int32.ofNat o)), .val (.int (Int32.ofNat len)), .val .null, .unset] [.ref s.heap.size])) := g8
  have c10 : Steps p.tables e below (s₁.setTop (entryFrame m #[.ref a, .ref b, .int (Int32.ofNat o), .int (Int32.ofNat len), .null] 6)) (T8.setTop (mkF m 45 #[.val (.ref a), .val (.ref b), .val (.int (Int32.ofNat o)), .val (.int (Int32.ofNat len)), .val .null, .val (.ref s.heap.size)] [.int (Int32.ofNat N.slots.size), .ref s.heap.size, .ref a])) := by
    have hc : Steps p.tables e below (s₁.setTop (entryFrame m #[.ref a, .ref b, .int (Int32.ofNat o), .int (Int32.ofNat len), .null] 6)) (T8.setTop (mkF m 45 #[.val (.ref a), .val (.ref b), .val (.int (Int32.ofNat o)), .val (.int (Int32.ofNat len)), .val .null, .val (.ref s.heap.size)] [.int (Int32.ofNat len), .ref s.heap.size, .ref a])) := c9.trans (by
      refine XS.astore X8.here hexec rfl (hb hbytes d39) rfl rfl rfl ?_
      refine XS.aloadN X8.here hexec rfl (hb hbytes d41) rfl rfl ?_
      refine XS.aload X8.here hexec rfl (hb hbytes d42) rfl rfl ?_
      refine XS.iloadN X8.here hexec rfl (hb hbytes d44) rfl ?_
      exact Steps.refl _)
    rw [n4]; exact hc
  obtain ⟨v11, T11, X11, E11, g11⟩ := X8.callS hexec (CodL.law l s.heap.size N) hown (wks W (staticW "java/lang/String" 47 CodL.yN)) (wk W CodL.tab) (W := 1) (Nat.le_of_ble_eq_true rfl) (Nat.le_of_ble_eq_true rfl) (Nat.le_refl _) (by show 0 + len + 0 ≤ len; omega) (g := (mkF m 45 #[.val (.ref a), .val (.ref b), .val (.int (Int32.ofNat o)), .val (.int (Int32.ofNat len)), .val .null, .val (.ref s.heap.size)] [.int (Int32.ofNat N.slots.size), .ref s.heap.size, .ref a])) rfl (by rw [hml]; rfl) c10 (argsL := [.ref s.heap.size, .int (Int32.ofNat N.slots.size)]) (rest := [.ref a]) rfl rfl (by show 2 * 0 + (1 + 0) ≤ _; decide) (hb hbytes d45) (⟨rfl, n1⟩)
  obtain ⟨rfl, q11⟩ := E11
  have hB11 := hB1.mv (X8.warmed.alike.symm.trans X11.warmed.alike) q11
  have c12 : Steps p.tables e below (s₁.setTop (entryFrame m #[.ref a, .ref b, .int (Int32.ofNat o), .int (Int32.ofNat len), .null] 6)) (T11.setTop (mkF m 48 #[.val (.ref a), .val (.ref b), .val (.int (Int32.ofNat o)), .val (.int (Int32.ofNat len)), .val .null, .val (.ref s.heap.size)] [.int 0, .ref a])) := g11
  obtain ⟨T13, X13, p13, bl13, sl13, st13⟩ := X11.finit hexec hown (wk W (.fieldLink "java/lang/String" 15 "java/lang/String" "coder" "B")) (Or.inr ⟨_, (wk W (.laysFinal "java/lang/String" "java/lang/String" "coder" "B"))⟩) (Or.inl ⟨rfl, hnm⟩) f2 (Or.inl rfl) hB11 (t := .byte) (by decide +kernel) rfl (g := (mkF m 48 #[.val (.ref a), .val (.ref b), .val (.int (Int32.ofNat o)), .val (.int (Int32.ofNat len)), .val .null, .val (.ref s.heap.size)] [.int 0, .ref a])) rfl (rest := []) rfl (hb hbytes d48)
  have c14 : Steps p.tables e below (s₁.setTop (entryFrame m #[.ref a, .ref b, .int (Int32.ofNat o), .int (Int32.ofNat len), .null] 6)) (T13.setTop (mkF m 54 #[.val (.ref a), .val (.ref b), .val (.int (Int32.ofNat o)), .val (.int (Int32.ofNat len)), .val .null, .val (.ref s.heap.size)] [.ref s.heap.size, .ref a])) := (c12.trans (st13 _ (Steps.refl _))).trans (by
    refine XS.aloadN X13.here hexec rfl (hb hbytes d51) rfl rfl ?_
    refine XS.aload X13.here hexec rfl (hb hbytes d52) rfl rfl ?_
    exact Steps.refl _)
  obtain ⟨T15, X15, p15, bl15, sl15, st15⟩ := X13.finit hexec hown (wk W (.fieldLink "java/lang/String" 9 "java/lang/String" "value" "[B")) (Or.inr ⟨_, (wk W (.laysFinal "java/lang/String" "java/lang/String" "value" "[B"))⟩) (Or.inl ⟨rfl, hnm⟩) f1 (Or.inl rfl) bl13 (t := (.array .byte)) (by decide +kernel) rfl (g := (mkF m 54 #[.val (.ref a), .val (.ref b), .val (.int (Int32.ofNat o)), .val (.int (Int32.ofNat len)), .val .null, .val (.ref s.heap.size)] [.ref s.heap.size, .ref a])) rfl (rest := []) rfl (hb hbytes d54)
  have c16 : Steps p.tables e below (s₁.setTop (entryFrame m #[.ref a, .ref b, .int (Int32.ofNat o), .int (Int32.ofNat len), .null] 6)) (T15.setTop (mkF m 57 #[.val (.ref a), .val (.ref b), .val (.int (Int32.ofNat o)), .val (.int (Int32.ofNat len)), .val .null, .val (.ref s.heap.size)] [])) := c14.trans (st15 _ (Steps.refl _))
  have ap := apart (Or.inr ⟨_, (wk W (.laysFinal "java/lang/String" "java/lang/String" "value" "[B"))⟩) (Or.inr ⟨_, (wk W (.laysFinal "java/lang/String" "java/lang/String" "coder" "B"))⟩) f1 f2 (t₁ := .array .byte) (t₂ := .byte) (by decide +kernel) (by decide +kernel) (by decide)
  have al := X8.warmed.alike.symm.trans X15.warmed.alike
  have n7 : T11.heap[s.heap.size]? = some N := by rw [q11]; exact n1.1
  exact ⟨T15, none, _, _, _, X15, by simp, rfl, by omega, (fun _ => rfl), ⟨rfl, _, N, bl15, ((Same.refl D _).set _ (by simp)).set _ (by simp), sl15, (Cell.slots_setSlot_ne _ ap).trans sl13, n1.keep al (p15.other hne (p13.other hne n7)), n2, by rw [al.findClass]; exact n3, n4, n5, fun y c h1 h2 => p15.other h1 (p13.other h1 (by rw [q11]; exact n6 y c h2)), by rw [p15.2.2, p13.2.2, q11]; exact z8⟩, fun fs hl => c16.trans (X15.returnOut hexec hret (hb hbytes d57) hl)⟩
end New4
namespace New1
def yN : MethodName := ⟨"java/lang/String", "<init>", "([C)V"⟩
abbrev yB : ByteArray := jdk_42_method_3_code
theorem d0 : decode yB 0 = .ok (.aload_n 0, 1) := by decide +kernel
theorem d1 : decode yB 1 = .ok (.aload_n 1, 1) := by decide +kernel
theorem d2 : decode yB 2 = .ok (.iconst 0, 1) := by decide +kernel
theorem d3 : decode yB 3 = .ok (.aload_n 1, 1) := by decide +kernel
theorem d4 : decode yB 4 = .ok (.arraylength, 1) := by decide +kernel
theorem d5 : decode yB 5 = .ok (.aconst_null, 1) := by decide +kernel
theorem d6 : decode yB 6 = .ok (.invokespecial 27, 3) := by decide +kernel
theorem d9 : decode yB 9 = .ok (.return_, 1) := by decide +kernel
def site : List Cond := [New4.tab] ++ initW "java/lang/String" 27 New4.yN
def tab : Cond := tabOf yN yB 2 none site
def P (a : Addr) (D : Cell) (fV fC : Field) (b : Addr) (A : Cell) (z : Int32) (args : Array Value) (s : State) : Prop := args = #[.ref a, .ref b] ∧ Blank "java/lang/String" a D s ∧ Found "java/lang/String" "value" "[B" fV s ∧ Found "java/lang/String" "coder" "B" fC s ∧ Ch b A s ∧ StaticIs s "java/lang/String" "COMPACT_STRINGS" "Z" (.int z) ∧ ¬ z = 0 ∧ 0 < A.slots.size ∧ A.slots.size ≤ 536870912 ∧ ∀ i, i < A.slots.size → ¬ 255 < cv A i
def E (a : Addr) (D : Cell) (fV fC : Field) (A : Cell) (r : Option Value) (s u : State) : Prop := Got a D fV fC A 0 A.slots.size r s u
/-- new String(chars), not empty, no char above 255: a Latin-1 String of their low bytes -/
theorem law (l : Launch) (a : Addr) (D : Cell) (fV fC : Field) (b : Addr) (A : Cell) (z : Int32) : Law l yN 2 1 3 52 yB 2 none site (P a D fV fC b A z) (E a D fV fC A) [⟨a, fC.slot⟩, ⟨a, fV.slot⟩] 1 A.slots.size := by
  refine Law.of_walk (plainFor_of_name (by decide +kernel)) (by decide +kernel) (by decide +kernel) (by decide) (fun _ _ h => by rw [h.1]; rfl) (fun _ U U' hal hh h => ⟨h.1, h.2.1.mv hal hh, h.2.2.1.al hal, h.2.2.2.1.al hal, h.2.2.2.2.1.mv hal hh, h.2.2.2.2.2.1.there hal hh, h.2.2.2.2.2.2⟩) (fun r U U' V V' h1 hal h2 h => Got.mv r U U' V V' h1 hal h2 h) ?_
  intro p e s m args below meth c s₁ X0 hexec hbytes hml hret hlk hnm hown hh0 W hP
  obtain ⟨rfl, hB, f1, f2, hA, s1, hz, l0, l2, hp⟩ := hP
  have c1 : Steps p.tables e below (s₁.setTop (entryFrame m #[.ref a, .ref b] 2)) (s₁.setTop (mkF m 0 #[.val (.ref a), .val (.ref b)] [])) := entry rfl
  have c2 : Steps p.tables e below (s₁.setTop (entryFrame m #[.ref a, .ref b] 2)) (s₁.setTop (mkF m 6 #[.val (.ref a), .val (.ref b)] [.null, .int (Int32.ofNat A.slots.size), .int 0, .ref b, .ref a])) := c1.trans (by
    refine XS.aloadN X0.here hexec rfl (hb hbytes d0) rfl rfl ?_
    refine XS.aloadN X0.here hexec rfl (hb hbytes d1) rfl rfl ?_
    refine iconstV X0.here hexec rfl 0 (hb hbytes d2) (by decide) ?_
    refine XS.aloadN X0.here hexec rfl (hb hbytes d3) rfl rfl ?_
    refine X0.alen hexec (hA.1.mv X0.warmed.alike hh0) rfl rfl (hb hbytes d4) ?_
    refine XS.aconstNull X0.here hexec rfl (hb hbytes d5) ?_
    exact Steps.refl _)
  obtain ⟨v3, T3, X3, E3, g3⟩ := X0.callN hexec (New4.law l a D fV fC b A z 0 A.slots.size) rfl hown (wks W (initW "java/lang/String" 27 New4.yN)) (W New4.tab (by simp only [site, List.mem_cons, List.mem_append, true_or, or_true])) (W := 0) (Nat.le_of_ble_eq_true rfl) (Nat.le_of_ble_eq_true rfl) (Nat.le_refl _) (by show 0 + A.slots.size ≤ A.slots.size; omega) (g := (mkF m 6 #[.val (.ref a), .val (.ref b)] [.null, .int (Int32.ofNat A.slots.size), .int (Int32.ofNat 0), .ref b, .ref a])) rfl (by rw [hml]; rfl) c2 (argsL := [.ref b, .int (Int32.ofNat 0), .int (Int32.ofNat A.slots.size), .null]) (rest := []) rfl rfl (by show 2 * 0 + 0 ≤ _; decide) (hb hbytes d6) (⟨rfl, hB.mv X0.warmed.alike hh0, f1.al X0.warmed.alike, f2.al X0.warmed.alike, hA.mv X0.warmed.alike hh0, s1.there X0.warmed.alike hh0, hz, l0, by omega, l2, fun i hi => by rw [Nat.zero_add]; exact hp i hi⟩)
  have e0 := Got.mv _ s₁ s _ _ hh0.symm (Vm.Alike.refl _) rfl E3
  obtain rfl := e0.1
  have c4 : Steps p.tables e below (s₁.setTop (entryFrame m #[.ref a, .ref b] 2)) (T3.setTop (mkF m 9 #[.val (.ref a), .val (.ref b)] [])) := g3
  exact ⟨T3, none, _, _, _, X3, by simp, rfl, by omega, (fun _ => rfl), e0, fun fs hl => c4.trans (X3.returnOut hexec hret (hb hbytes d9) hl)⟩
theorem pays {l : Launch} {R : Room} {p : Program} {e : Env} {below : List Frame} {s : State} {sargs : Array Value} {len W : Nat} (a : Addr) (D : Cell) (fV fC : Field) (b : Addr) (A : Cell) (z : Int32) (htab : tab.before sargs s = true) (hfr : 4 ≤ R.frames) (hlo : W + 65 ≤ R.locals) :
    Back l R p e below s sargs yN len W (fun A₁ a₁ => A₁.cells + 1 ≤ R.cells ∧ A₁.slots + A.slots.size ≤ R.slots ∧ P a D fV fC b A z a₁ A₁.U) (fun A₁ _ v₁ B₁ => E a D fV fC A v₁ A₁.U B₁.U ∧ B₁.locs = A₁.locs ++ [⟨a, fC.slot⟩, ⟨a, fV.slot⟩] ∧ B₁.cells = A₁.cells + 1 ∧ B₁.slots = A₁.slots + A.slots.size) :=
  (law l a D fV fC b A z).pays htab hfr (by omega)
end New1
end StrChars
namespace StrChars.Road
open Jvm Sem ClassFile Op Lib Jvm.Stand Jvm.Free Jvm.Free.XT
open Jvm.Lib.Cold (StaticIs)
abbrev ST : String := "java/lang/String"
/-- every table word that New1's law asks, flat -/
abbrev words : List Jvm.Cond := [.code New1.yN New1.yB 2 none, .initialized ST, .methodLink ST 27 New4.yN, .instanceMethod New4.yN,
  .code New4.yN New4.yB 6 none, .fieldLink ST 38 ST "COMPACT_STRINGS" "Z", .laysFinal ST ST "value" "[B", .fieldLink ST 9 ST "value" "[B", .laysFinal ST ST "coder" "B", .fieldLink ST 15 ST "coder" "B",
  .methodLink ST 1 Lib.objectInit, .instanceMethod Lib.objectInit, .code Lib.objectInit ⟨#[0xb1]⟩ 1 none, .methodLink ST 177 Cmp3.yN, .static Cmp3.yN, .methodLink ST 47 CodL.yN, .static CodL.yN,
  .code Cmp3.yN Cmp3.yB 6 (some (.array .byte)), .initialized U16, .arrayClass .byte, .methodLink U16 115 Cmp5.yN, .static Cmp5.yN, .code Cmp5.yN Cmp5.yB 7 (some .int), .code CodL.yN CodL.yB 2 (some .byte)]
theorem tab_of {a : Array Value} {s : State} (h : ∀ w ∈ words, w.before a s = true) : New1.tab.before a s = true := by
  have h5 : Cmp5.tab.before a s = true := unparts (wk h (.code Cmp5.yN Cmp5.yB 7 (some .int))) (wks h (.initialized Cmp5.yN.cls :: Cmp5.site))
  have hc : CodL.tab.before a s = true := unparts (wk h (.code CodL.yN CodL.yB 2 (some .byte))) (wks h (.initialized CodL.yN.cls :: CodL.site))
  have q5 : ∀ w ∈ Cmp5.tab :: words, w.before a s = true := fun w hw => (List.mem_cons.mp hw).elim (fun e => e ▸ h5) (h w)
  have h3 : Cmp3.tab.before a s = true := unparts (wk q5 (.code Cmp3.yN Cmp3.yB 6 (some (.array .byte)))) (wks q5 (.initialized Cmp3.yN.cls :: Cmp3.site))
  have q3 : ∀ w ∈ Cmp3.tab :: CodL.tab :: words, w.before a s = true := fun w hw => (List.mem_cons.mp hw).elim (fun e => e ▸ h3) fun hw => (List.mem_cons.mp hw).elim (fun e => e ▸ hc) (h w)
  have h4 : New4.tab.before a s = true := unparts (wk q3 (.code New4.yN New4.yB 6 none)) (wks q3 (.initialized New4.yN.cls :: New4.site))
  have q4 : ∀ w ∈ New4.tab :: words, w.before a s = true := fun w hw => (List.mem_cons.mp hw).elim (fun e => e ▸ h4) (h w)
  exact unparts (wk q4 (.code New1.yN New1.yB 2 none)) (wks q4 (.initialized New1.yN.cls :: New1.site))
/-- the words ride from the start Z to the walk's own state -/
theorem moved {Z s : State} {a0 args : Array Value} (hZ : Z.Warmed39 s.vm) (hw : ∀ d ∈ words, d.before a0 Z = true) : ∀ d ∈ words, d.before args s = true := fun d hd => by
  have q := hw d hd
  have t : ∀ d ∈ words, d = .arrayClass .byte ∨ (d.onTables && d.keepsFace) = true := by decide +kernel
  rcases t d hd with rfl | t
  · exact RoadKit.mvA hZ q
  · exact RoadKit.mv hZ q t
/-- WHAT COMES BACK, over the tables of the start Z: h the heap at the call, h' behind it -/
def Q (Z : State) (x : Addr) (A : Cell) (h : Heap) (v : Option Value) (h' : Heap) (L : List Loc) : Prop := v = none ∧ (∀ y ∈ L, y.base = x) ∧ RoadKit.Keep h h' [x] ∧ h'.size = h.size + 1 ∧ RoadKit.Exa Z h' x ST ∧ RoadKit.Fld Z h' x ST "value" "[B" (.ref h.size) ∧ RoadKit.Fld Z h' x ST "coder" "B" (.int 0) ∧
  (∃ V : Cell, RoadKit.Arr Z h' h.size V .byte ∧ V.vm = .none ∧ Z.vm.findClass "[B" = some V.cls ∧ V.slots.size = A.slots.size ∧ ∀ j, j < A.slots.size → V.slots[j]? = some (.int (lo8 (cv A j)))) ∧
  ∀ (O n d : String) (w : Value), RoadKit.Fld Z h x O n d w → RoadKit.slotOf Z O n d ≠ RoadKit.slotOf Z ST "value" "[B" → RoadKit.slotOf Z O n d ≠ RoadKit.slotOf Z ST "coder" "B" → RoadKit.Fld Z h' x O n d w
/-- **new String(chars) AT A CALL, IN THE ROAD'S FORM**: for specialBack behind newO: x the fresh String, b the char[] with the cell A -/
theorem back {p : Program} {l : Launch} {e : Env} {R : Room} {s : State} {args : Array Value} {below : List Frame} {len W : Nat} {Z : State} {a0 : Array Value} {h : Heap} (hZ : Z.Warmed39 s.vm) (hw : ∀ d ∈ words, d.before a0 Z = true) {kI : Nat} (wi : (Jvm.Cond.instantiable ST kI).before a0 Z = true)
    {x b : Addr} {A : Cell} {z : Int32} {v0 c0 : Value} (E : RoadKit.Exa Z h x ST) (V : RoadKit.Fld Z h x ST "value" "[B" v0) (C : RoadKit.Fld Z h x ST "coder" "B" c0) (K : RoadKit.Arr Z h b A .char) (hty : Typed .char A) (S : RoadKit.Sta Z h ST "COMPACT_STRINGS" "Z" (.int z)) (hz : ¬ z = 0)
    (l0 : 0 < A.slots.size) (l2 : A.slots.size ≤ 536870912) (hp : ∀ i, i < A.slots.size → ¬ 255 < cv A i) (hfr : 4 ≤ R.frames) (hlo : W + 65 ≤ R.locals) :
    Back l R p e below s args New1.yN len W (fun P a => a = #[.ref x, .ref b] ∧ P.U.heap = h ∧ P.cells + 1 ≤ R.cells ∧ P.slots + A.slots.size ≤ R.slots)
      (fun P _ v B => ∃ L, Q Z x A h v B.U.heap L ∧ B.locs = P.locs ++ L ∧ B.cells = P.cells + 1 ∧ B.slots = P.slots + A.slots.size) := by
  intro m meth c P g ig mk a X hg hsize hdg hW hn hp'
  obtain ⟨rfl, rfl, r1, r2⟩ := hp'
  have al : Z.vm.Alike P.U.vm := hZ.alike.trans X.warmed.alike
  obtain ⟨D, cfV, kV, iV, fV, hD, gV, stV, knV, obV, asV, slV⟩ := id V
  obtain ⟨D', cfC, kC, iC, fC, hD', gC, stC, -, -, asC, slC⟩ := id C
  cases hD.symm.trans hD'
  obtain ⟨D2, kD, e1, e2, e3, e4, e5⟩ := id E
  cases hD.symm.trans e1
  obtain ⟨c2, k2, i1, i2, i3, -⟩ := Cond.instantiable_spec wi
  cases e2.symm.trans i1
  cases e3.symm.trans i2
  obtain ⟨kU, u1, u2⟩ := al.2.2 _ _ e3
  have hB : Blank ST x D P.U := ⟨hD, ⟨knV, fun q hq => by rw [hq] at obV; cases obV⟩, by rw [al.findClass]; exact e2, kU, u1, by rw [u2]; exact i3, by rw [u2]; exact e5 i3⟩
  have F1 : Found ST "value" "[B" fV P.U := ⟨SBG.found_only al ⟨cfV, kV, iV, gV⟩, stV⟩
  have F2 : Found ST "coder" "B" fC P.U := ⟨SBG.found_only al ⟨cfC, kC, iC, gC⟩, stC⟩
  have hA : Ch b A P.U := ⟨⟨K.1, State.isArrayOf_alike al K.2.1, K.2.2, by omega⟩, hty⟩
  have hS : StaticIs P.U ST "COMPACT_STRINGS" "Z" (.int z) := by
    obtain ⟨cfS, iS, kS, fS, st, cS, t1, t2, t3, t4, t5, t6, t7⟩ := S
    exact StaticIs.there (s := { Z with heap := P.U.heap }) ⟨cfS, iS, kS, fS, st, cS, t1, t2, t3, t4, t5, (fun q => by rw [q] at t6; cases t6), t7⟩ al rfl
  obtain ⟨v, B, X', ⟨⟨hv, E', V', q1, q2, q3, q4, q5, q6, q7, q8, q9, q10, q11⟩, hl, hc, hs⟩, st⟩ := New1.pays x D fV fC b A z (tab_of (moved hZ hw)) hfr hlo m meth c P g ig mk _ X hg hsize hdg hW hn ⟨r1, r2, rfl, hB, F1, F2, hA, hS, hz, l0, l2, hp⟩
  have al' : Z.vm.Alike B.U.vm := hZ.alike.trans X'.warmed.alike
  have hsz : E'.slots.size = D.slots.size := by
    obtain ⟨-, -, -, kB, w1, w2, w3⟩ := q1
    obtain ⟨kB', y1, y2⟩ := al'.2.2 _ _ e3
    rw [q2.2.1] at w1
    cases w1.symm.trans y1
    rw [w3, e5 i3, y2]
  refine ⟨v, B, X', ⟨_, ⟨hv, ?_, ⟨by omega, fun y cy hy hn' => q10 y cy (by simpa using hn') hy, fun y cy hy => ?_⟩, q11, ⟨E', _, q1.1, by rw [q2.2.1]; exact e2, by rw [q2.2.1]; exact e3, by rw [q2.1]; exact obV, fun _ => by rw [hsz]; exact e5 i3⟩,
    ⟨E', cfV, kV, iV, fV, q1.1, gV, stV, by rw [q2.1]; exact knV, by rw [q2.1]; exact obV, by rw [q2.2.1]; exact asV, q3⟩, ⟨E', cfC, kC, iC, fC, q1.1, gC, stC, by rw [q2.1]; exact knV, by rw [q2.1]; exact obV, by rw [q2.2.1]; exact asC, q4⟩,
    ⟨V', ⟨q5.1, State.isArrayOf_alike al'.symm q5.2.1, q5.2.2.1⟩, q6, by rw [← al'.findClass]; exact q7, q8, fun j hj => by have := q9 j hj; rwa [Nat.zero_add] at this⟩, fun O n d w F n1 n2 => ?_⟩, hl, hc, hs⟩, st⟩
  · intro y hy
    simp only [List.mem_cons, List.not_mem_nil, or_false] at hy
    rcases hy with rfl | rfl <;> rfl
  · by_cases q : y = x
    · subst q
      cases hD.symm.trans hy
      exact ⟨E', q1.1, q2.2.1, q2.1, hsz⟩
    · exact ⟨cy, q10 y cy q hy, rfl, rfl, rfl⟩
  · obtain ⟨D3, cf, k, i, f, g1, g2, g3, g4, g5, g6, g7⟩ := F
    cases hD.symm.trans g1
    simp only [RoadKit.slotOf, g2, gV, gC, Option.map_some, Option.getD_some] at n1 n2
    exact ⟨E', cf, k, i, f, q1.1, g2, g3, by rw [q2.1]; exact g4, by rw [q2.1]; exact g5, by rw [q2.2.1]; exact g6, by rw [q2.2.2 f.slot (by simp [n1, n2])]; exact g7⟩
end StrChars.Road
namespace StrChars.Road
open Jvm Sem ClassFile Op Lib Jvm.Stand Jvm.Free Jvm.Free.XT
/-- WHAT COMES BACK, the byte[] as a list of values -/
def QA (Z : State) (x : Addr) (zn : Int32) (cs : List Int32) (h : Heap) (v : Option Value) (h' : Heap) (L : List Loc) : Prop := v = none ∧ (∀ y ∈ L, y.base = x) ∧ RoadKit.Keep h h' [x] ∧ h'.size = h.size + 1 ∧ RoadKit.Exa Z h' x ST ∧ RoadKit.Fld Z h' x ST "value" "[B" (.ref h.size) ∧ RoadKit.Fld Z h' x ST "coder" "B" (.int 0) ∧
  (∃ kb, Z.vm.findClass "[B" = some kb ∧ RoadKit.Arv Z h' h.size kb .byte zn (cs.map fun c => .int (lo8 c)) (.int 0)) ∧
  ∀ (O n d : String) (w : Value), RoadKit.Fld Z h x O n d w → RoadKit.slotOf Z O n d ≠ RoadKit.slotOf Z ST "value" "[B" → RoadKit.slotOf Z O n d ≠ RoadKit.slotOf Z ST "coder" "B" → RoadKit.Fld Z h' x O n d w
/-- **new String(chars) AT A CALL, THE ARRAYS AS LISTS**: the char[] at b holds cs, not empty, no char above 255 -/
theorem backArv {p : Program} {l : Launch} {e : Env} {R : Room} {s : State} {args : Array Value} {below : List Frame} {len W : Nat} {Z : State} {a0 : Array Value} {h : Heap} (hZ : Z.Warmed39 s.vm) (hw : ∀ d ∈ words, d.before a0 Z = true) {kI : Nat} (wi : (Jvm.Cond.instantiable ST kI).before a0 Z = true)
    {x b : Addr} {k : ClassId} {zn z : Int32} {cs : List Int32} {dv v0 c0 : Value} (E : RoadKit.Exa Z h x ST) (V : RoadKit.Fld Z h x ST "value" "[B" v0) (C : RoadKit.Fld Z h x ST "coder" "B" c0) (K : RoadKit.Arv Z h b k .char zn (cs.map Value.int) dv) (S : RoadKit.Sta Z h ST "COMPACT_STRINGS" "Z" (.int z)) (hz : ¬ z = 0)
    (hlen : zn.toNatClampNeg = cs.length) (h0 : 0 < cs.length) (hbig : cs.length ≤ 536870912) (hall : ∀ c ∈ cs, ¬ 255 < c) (hfr : 4 ≤ R.frames) (hlo : W + 65 ≤ R.locals) :
    Back l R p e below s args New1.yN len W (fun P a => a = #[.ref x, .ref b] ∧ P.U.heap = h ∧ P.cells + 1 ≤ R.cells ∧ P.slots + cs.length ≤ R.slots)
      (fun P _ v B => ∃ L, QA Z x zn cs h v B.U.heap L ∧ B.locs = P.locs ++ L ∧ B.cells = P.cells + 1 ∧ B.slots = P.slots + cs.length) := by
  obtain ⟨A, K1, K2, K3, K4, K5, K6⟩ := K
  have e : A.slots.size = cs.length := K3.trans hlen
  have hat : ∀ (i : Nat) (hi : i < cs.length), A.slots[i]? = some (.int cs[i]) := fun i hi => by rw [K5 i (by omega)]; simp [List.getD_eq_getElem?_getD, hi]
  have hcv : ∀ (i : Nat) (hi : i < cs.length), cv A i = cs[i] := fun i hi => by unfold cv; rw [hat i hi]
  have hty : Typed .char A := fun i v hv => by
    have hi : i < A.slots.size := (Array.getElem?_eq_some_iff.mp hv).1
    have q := K5 i hi
    rw [hv] at q
    rw [Option.some.inj q]
    exact K6 i hi
  refine Back.mono (back hZ hw wi E V C K1 hty S hz (by omega) (by omega) (fun i hi => by rw [hcv i (by omega)]; exact hall _ (List.getElem_mem _)) hfr hlo) (fun P a hp => ⟨hp.1, hp.2.1, hp.2.2.1, by rw [e]; exact hp.2.2.2⟩) (fun P a v B hp hq => ?_)
  obtain ⟨L, ⟨q1, q2, q3, q4, q5, q6, q7, ⟨V', v1, v2, v3, v4, v5⟩, q9⟩, hl, hc, hs⟩ := hq
  refine ⟨L, ⟨q1, q2, q3, q4, q5, q6, q7, ⟨V'.cls, v3, V', v1, rfl, by rw [v4, e, hlen], K4, fun i hi => ?_, fun i hi => ?_⟩, q9⟩, hl, hc, by rw [hs, e]⟩
  · have hi' : i < cs.length := by omega
    rw [v5 i (by omega), hcv i hi']; simp [List.getD_eq_getElem?_getD, hi']
  · have hi' : i < cs.length := by omega
    simp only [List.getD_eq_getElem?_getD, List.getElem?_map, List.getElem?_eq_getElem hi', Option.map_some, Option.getD_some]
    exact fits_lo8 _
end StrChars.Road
namespace StrChars.Road
open Jvm Sem ClassFile Op Lib Jvm.Stand Jvm.Free Jvm.Free.XT
/-- WHAT COMES BACK, in the writer's own shape -/
def QV (Z : State) (x : Addr) (N : Int32) (bs : List Int32) (h : Heap) (n0 : Nat) (v : Option Value) (h' : Heap) (L : List Loc) : Prop := v = none ∧ RoadKit.Fr n0 L ∧ RoadKit.Keep h h' [x] ∧ RoadKit.Exa Z h' x ST ∧ RoadKit.Fld Z h' x ST "coder" "B" (.int 0) ∧
  ∃ (t : Addr) (kb : ClassId), n0 ≤ t ∧ h.size ≤ t ∧ ¬ t = x ∧ RoadKit.Fld Z h' x ST "value" "[B" (.ref t) ∧ RoadKit.Arv Z h' t kb .byte N (bs.map Value.int) (.int 0)
/-- **new String(chars) AT A CALL, FOR THE WRITER**: a char[] of n known ints, each 0 to 255 -/
theorem backV {p : Program} {l : Launch} {e : Env} {R : Room} {s : State} {args : Array Value} {below : List Frame} {len W : Nat} {Z : State} {a0 : Array Value} {h : Heap} (hZ : Z.Warmed39 s.vm) (hw : ∀ d ∈ words, d.before a0 Z = true) {kI : Nat} (wi : (Jvm.Cond.instantiable ST kI).before a0 Z = true)
    {x b : Addr} {kC : ClassId} {cs bs : List Int32} {d v0 c0 : Value} {z N : Int32} {n n0 : Nat} (hx0 : n0 ≤ x) (hh0 : n0 ≤ h.size) (E : RoadKit.Exa Z h x ST) (V : RoadKit.Fld Z h x ST "value" "[B" v0) (C : RoadKit.Fld Z h x ST "coder" "B" c0) (K : RoadKit.Arv Z h b kC .char N (cs.map Value.int) d) (S : RoadKit.Sta Z h ST "COMPACT_STRINGS" "Z" (.int z)) (hz : ¬ z = 0)
    (hn : cs.length = n) (hN : N = Int32.ofNat n) (l0 : 0 < n) (l2 : n ≤ 4000) (hp : ∀ c ∈ cs, ¬ c < 0 ∧ ¬ (255 : Int32) < c) (hb : bs = cs.map (fun c => c.toInt8.toInt32)) (hfr : 4 ≤ R.frames) (hlo : W + 65 ≤ R.locals) :
    Back l R p e below s args (⟨"java/lang/String", "<init>", "([C)V"⟩ : MethodName) len W (fun P a => a = #[.ref x, .ref b] ∧ P.U.heap = h ∧ P.cells + 1 ≤ R.cells ∧ P.slots + n ≤ R.slots)
      (fun P _ v B => ∃ L, QV Z x N bs h n0 v B.U.heap L ∧ B.locs = P.locs ++ L ∧ B.cells = P.cells + 1 ∧ B.slots = P.slots + n) := by
  subst hn hN hb
  refine Back.mono (backArv hZ hw wi E V C K S hz (n32 (by omega)) l0 (by omega) (fun c hc => (hp c hc).2) hfr hlo) (fun P a hp => hp) (fun P a v B hp hq => ?_)
  obtain ⟨L, ⟨q1, q2, q3, q4, q5, q6, q7, ⟨kb, v1, v2⟩, q9⟩, hl, hc, hs⟩ := hq
  exact ⟨L, ⟨q1, fun y hy => by rw [q2 y hy]; exact hx0, q3, q5, q7, h.size, kb, hh0, Nat.le_refl _, Nat.ne_of_gt E.lt, q6, by rw [List.map_map]; exact v2⟩, hl, hc, hs⟩
end StrChars.Road
namespace StrChars
open Jvm Sem ClassFile Op Lib Jvm.Stand Jvm.Free.XT Jvm.Free.ALB Jvm.Free.JM Jvm.Free
open Jvm.Lib.Cold (StaticIs)
def hi8 (x : Int32) : Int32 := lo8 (x >>> ((8 : Int32) &&& 31))
end StrChars
namespace StrChars.Road
open Jvm Sem ClassFile Op Lib Jvm.Stand Jvm.Free Jvm.Free.XT
open Jvm.Lib.Cold (StaticIs)
/-- the bytes of the chars cs, low before high -/
def wideBytes : List Int32 → List Value
  | [] => []
  | c :: cs => .int (lo8 c) :: .int (hi8 c) :: wideBytes cs
/-- an array of N2 bytes vs codes the chars cs by the coder cd -/
def CodA (cs : List Int32) (cd N2 : Int32) (vs : List Value) : Prop := (cd = 0 ∧ N2 = Int32.ofNat cs.length ∧ vs = (cs.map fun c => Value.int (lo8 c)) ∧ ∀ c ∈ cs, ¬ 255 < c) ∨ (cd = 1 ∧ N2 = Int32.ofNat (2 * cs.length) ∧ vs = wideBytes cs ∧ ∃ c ∈ cs, 255 < c)
end StrChars.Road
namespace StrChars.Road
open Jvm Sem ClassFile Op Lib Jvm.Stand Jvm.Free Jvm.Free.XT
open Jvm.Lib.Cold (StaticIs)
/-- what backV says of its String, as the contracts of this text ask it: cs's low bytes, coder 0 -/
theorem codOf {cs : List Int32} {n : Nat} (hn : cs.length = n) (hb : ∀ c ∈ cs, ¬ 255 < c) : CodA cs 0 (Int32.ofNat n) ((cs.map lo8).map Value.int) := Or.inl ⟨rfl, by rw [hn], by simp [List.map_map, Function.comp_def], hb⟩
end StrChars.Road
end Jvm.Pilot.@@N@@

namespace Jvm.Pilot.@@N@@
open Jvm Jvm.ClassFile Sem Op Lib Jvm.Free Jvm.Stand Jvm.LawKit Jvm.RoadKit Bundle Jvm.Pilot.@@N@@.Jvm.D
def own_K (p : Program) (e : Env) (below : List Frame) (A B : State) : Prop := ∀ t, Steps p.tables e below A t → Steps p.tables e below B t
def own_J (p : Program) (e : Env) (below : List Frame) (T : State) (m : MethodId) (pc : Nat) (L : Array Slot) (S : List Value) (B : State) : Prop := ∀ t, Steps p.tables e below (T.setTop (mkF m pc L S)) t → Steps p.tables e below B t
theorem own_ifT_eq {x : Int32} (h : x = 0) : ifCond.holds .eq x = true := by simp [ifCond.holds, h]
theorem own_ifF_eq {x : Int32} (h : ¬ x = 0) : ifCond.holds .eq x = false := by simp [ifCond.holds, h]
theorem own_ifT_ne {x : Int32} (h : ¬ x = 0) : ifCond.holds .ne x = true := by simp [ifCond.holds, h]
theorem own_ifF_ne {x : Int32} (h : x = 0) : ifCond.holds .ne x = false := by simp [ifCond.holds, h]
theorem own_ifT_lt {x : Int32} (h : x < 0) : ifCond.holds .lt x = true := by simp [ifCond.holds, h]
theorem own_ifF_lt {x : Int32} (h : ¬ x < 0) : ifCond.holds .lt x = false := by simp [ifCond.holds, h]
theorem own_ifT_ge {x : Int32} (h : ¬ x < 0) : ifCond.holds .ge x = true := by simp [ifCond.holds, Int32.not_lt.mp h]
theorem own_ifF_ge {x : Int32} (h : x < 0) : ifCond.holds .ge x = false := by simp [ifCond.holds, Int32.not_le.mpr h]
theorem own_ifT_gt {x : Int32} (h : 0 < x) : ifCond.holds .gt x = true := by simp [ifCond.holds, h]
theorem own_ifF_gt {x : Int32} (h : ¬ 0 < x) : ifCond.holds .gt x = false := by simp [ifCond.holds, h]
theorem own_ifT_le {x : Int32} (h : ¬ 0 < x) : ifCond.holds .le x = true := by simp [ifCond.holds, Int32.not_lt.mp h]
theorem own_ifF_le {x : Int32} (h : 0 < x) : ifCond.holds .le x = false := by simp [ifCond.holds, Int32.not_le.mpr h]
theorem own_icT_eq {x y : Int32} (h : x = y) : if_icmp.holds .eq x y = true := by simp [if_icmp.holds, h]
theorem own_icF_eq {x y : Int32} (h : ¬ x = y) : if_icmp.holds .eq x y = false := by simp [if_icmp.holds, h]
theorem own_icT_ne {x y : Int32} (h : ¬ x = y) : if_icmp.holds .ne x y = true := by simp [if_icmp.holds, h]
theorem own_icF_ne {x y : Int32} (h : x = y) : if_icmp.holds .ne x y = false := by simp [if_icmp.holds, h]
theorem own_icT_lt {x y : Int32} (h : x < y) : if_icmp.holds .lt x y = true := by simp [if_icmp.holds, h]
theorem own_icF_lt {x y : Int32} (h : ¬ x < y) : if_icmp.holds .lt x y = false := by simp [if_icmp.holds, h]
theorem own_icT_ge {x y : Int32} (h : ¬ x < y) : if_icmp.holds .ge x y = true := by simp [if_icmp.holds, Int32.not_lt.mp h]
theorem own_icF_ge {x y : Int32} (h : x < y) : if_icmp.holds .ge x y = false := by simp [if_icmp.holds, Int32.not_le.mpr h]
theorem own_icT_gt {x y : Int32} (h : y < x) : if_icmp.holds .gt x y = true := by simp [if_icmp.holds, h]
theorem own_icF_gt {x y : Int32} (h : ¬ y < x) : if_icmp.holds .gt x y = false := by simp [if_icmp.holds, h]
theorem own_icT_le {x y : Int32} (h : ¬ y < x) : if_icmp.holds .le x y = true := by simp [if_icmp.holds, Int32.not_lt.mp h]
theorem own_icF_le {x y : Int32} (h : y < x) : if_icmp.holds .le x y = false := by simp [if_icmp.holds, Int32.not_le.mpr h]
theorem own_from {p : Program} {e : Env} {below : List Frame} {A B t : State} (h : B = A) (q : Steps p.tables e below B t) : Steps p.tables e below A t := h ▸ q
abbrev rO (f c s l : Nat) : Room := { frames := f, cells := c, slots := s, locals := l }
abbrev own_Met (l : Launch) (y : MethodName) (code : ByteArray) (ml : Nat) (ret : Option FieldType) (ws : List Jvm.Cond) (rm : Room) (as' : Array Value) (Z : State) (h0 : Heap) (Q : Option Value → Heap → List Loc → Prop) : Prop :=
  MetFree l y (head1 (Jvm.Cond.code y code ml ret :: ws) rm) (fun ar_ U => ar_ = as' ∧ Z.Warmed39 U.vm ∧ U.heap = h0) (fun _ _ _ _ _ => True) (fun _ U o U' => ∃ v L, o = .returned v ∧ Q v U'.heap L ∧ FrameEnd U o U' L rm.cells rm.slots)
theorem own_InsKeep {Z : State} {h h' : Heap} {b : Addr} {C : String} {bo : Bool} {ws : List Addr} (F : Ins Z h b C bo) (K : Keep h h' ws) (q : b ∉ ws) : Ins Z h' b C bo := by obtain ⟨cell, k, h1, r⟩ := F; exact ⟨cell, k, K.2.1 _ _ h1 q, r⟩
theorem own_l {a b : Nat} (h : Nat.ble a b = true) : a ≤ b := Nat.le_of_ble_eq_true h
theorem own_lt {a b : Nat} (h : Nat.ble (a + 1) b = true) : a < b := Nat.le_of_ble_eq_true h
theorem own_m0 {a : Addr} {P : Prop} : a ∈ [a] ∨ P := Or.inl (List.mem_of_getElem? (i := 0) rfl)
theorem wT {Z : State} {a0 : Array Value} (hw : ∀ d ∈ tables_1, d.before a0 Z = true) (i : Nat) {d : Jvm.Cond} (h : tables_1[i]? = some d) : d.before a0 Z = true := hw d (List.mem_of_getElem? h)
theorem own_mvNest {Z s : State} {a0 args : Array Value} {own host : String} {index : Nat} {y : MethodName} (hZ : Z.Warmed39 s.vm) (w : (Cond.methodLinkNest own index y host).before a0 Z = true) : (Cond.methodLinkNest own index y host).before args s = true := (Cond.methodLinkNest_wide hZ w :)
theorem own_pop2 {tb : Tables} [Ours tb] {e : Env} {below : List Frame} {T target : State} {m : MethodId} {c : Code} {g : JFrame} (h : At T m c below) (hx : tb.exec = Jvm.exec) (hg : g.method = m) {x : UInt64} {rest : List Value} (hd : decode c.code g.pc = .ok (.pop2, 1)) (hs : g.stack = .double x :: rest)
    (hr : Steps tb e below (T.setTop { g with pc := g.pc + 1, stack := rest }) target) : Steps tb e below (T.setTop g) target := by
  subst hg
  jvm_step h [h.top, hx, hd, hs, Value.category]
  exact hr
def own_Str (Z : State) (h : Heap) (a t : Addr) (kb : ClassId) (cs : List Int32) : Prop := Exa Z h a "java/lang/String" ∧ Fld Z h a "java/lang/String" "value" "[B" (.ref t) ∧ Fld Z h a "java/lang/String" "coder" "B" (.int 0) ∧ Arv Z h t kb .byte (Int32.ofNat cs.length) ((cs.map fun c => c.toInt8.toInt32).map Value.int) (.int 0)
theorem own_Str.ext {Z : State} {h h' : Heap} {a t : Addr} {kb : ClassId} {cs : List Int32} (S : own_Str Z h a t kb cs) (E : Ext h h') : own_Str Z h' a t kb cs := ⟨S.1.ext E, S.2.1.ext E, S.2.2.1.ext E, S.2.2.2.ext E⟩
theorem own_Str.keep {Z : State} {h h' : Heap} {ws : List Addr} {a t : Addr} {kb : ClassId} {cs : List Int32} (S : own_Str Z h a t kb cs) (K : Keep h h' ws) (q : a ∉ ws) (r : t ∉ ws) : own_Str Z h' a t kb cs := ⟨S.1.keep K, S.2.1.keep K q, S.2.2.1.keep K q, S.2.2.2.keep K r⟩
/-- a char of one byte -/
def own_b8 (c : Int32) : Prop := ¬ c < 0 ∧ ¬ (255 : Int32) < c
theorem own_b8.up {c : Int32} (h : own_b8 c) : ¬ c < 0 ∧ ¬ (65535 : Int32) < c := ⟨h.1, fun q => h.2 (by
  have q1 := Int32.lt_iff_toInt_lt.mp q
  rw [Int32.lt_iff_toInt_lt]
  rw [show (65535 : Int32).toInt = 65535 from rfl] at q1
  rw [show (255 : Int32).toInt = 255 from rfl]
  omega)⟩
theorem own_cod {cs : List Int32} (h : ∀ c ∈ cs, own_b8 c) : StrChars.Road.CodA cs 0 (Int32.ofNat cs.length) ((cs.map fun c => c.toInt8.toInt32).map Value.int) := StrChars.Road.codOf rfl fun c hc => (h c hc).2
theorem own_caload {p : Program} {l : Launch} {e : Env} {R : Room} {s : State} {m : MethodId} {args : Array Value} {below : List Frame} {meth : Method} {c : Code} {T : State} {locs : List Loc} {cells slots : Nat} {Z : State} {h : Heap} (X : Stand p l e R s m args below meth c T locs cells slots) (hx : p.tables.exec = Jvm.exec) (hZ : Z.Warmed39 s.vm) (eT : T.heap = h) {a : Addr} {k : ClassId} {z : Int32} {vs : List Value} {dv : Value} (F : Arv Z h a k .char z vs dv) {j : Int32} {v : Value} (hj : ¬ j < 0 ∧ j < z) (hv : vs.getD j.toNatClampNeg dv = v)
    {g : JFrame} (hg : g.method = m) {rest : List Value} (hs : g.stack = .int j :: .ref a :: rest) (hd : decode c.code g.pc = .ok (.caload, 1)) : ∀ target, Steps p.tables e below (T.setTop { g with pc := g.pc + 1, stack := v :: rest }) target → Steps p.tables e below (T.setTop g) target := by
  obtain ⟨cl, Ar, -, S, Ng, H, -⟩ := F
  have hin := inb_of S hj
  exact X.caload hx (j := j) (v := v) (by rw [eT]; exact Ar.1) (State.isArrayOf_alike hZ.alike Ar.2.1) Ar.2.2 hin (Has.at H hin hv) (g := g) hg hs hd
theorem own_laload {p : Program} {l : Launch} {e : Env} {R : Room} {s : State} {m : MethodId} {args : Array Value} {below : List Frame} {meth : Method} {c : Code} {T : State} {locs : List Loc} {cells slots : Nat} {Z : State} {h : Heap} (X : Stand p l e R s m args below meth c T locs cells slots) (hx : p.tables.exec = Jvm.exec) (hZ : Z.Warmed39 s.vm) (eT : T.heap = h) {a : Addr} {k : ClassId} {z : Int32} {vs : List Value} {dv : Value} (F : Arv Z h a k .long z vs dv) {j : Int32} {v : Value} (hj : ¬ j < 0 ∧ j < z) (hv : vs.getD j.toNatClampNeg dv = v)
    {g : JFrame} (hg : g.method = m) {rest : List Value} (hs : g.stack = .int j :: .ref a :: rest) (hd : decode c.code g.pc = .ok (.laload, 1)) : ∀ target, Steps p.tables e below (T.setTop { g with pc := g.pc + 1, stack := v :: rest }) target → Steps p.tables e below (T.setTop g) target := by
  obtain ⟨cl, Ar, -, S, Ng, H, -⟩ := F
  have hin := inb_of S hj
  exact X.laload hx (j := j) (v := v) (by rw [eT]; exact Ar.1) (State.isArrayOf_alike hZ.alike Ar.2.1) Ar.2.2 hin (Has.at H hin hv) (g := g) hg hs hd
theorem own_baloadBytes {p : Program} {l : Launch} {e : Env} {R : Room} {s : State} {m : MethodId} {args : Array Value} {below : List Frame} {meth : Method} {c : Code} {T : State} {locs : List Loc} {cells slots : Nat} {Z : State} {h : Heap} (X : Stand p l e R s m args below meth c T locs cells slots) (hx : p.tables.exec = Jvm.exec) (hZ : Z.Warmed39 s.vm) (eT : T.heap = h) {a : Addr} {k : ClassId} {z : Int32} {vs : List Value} {dv : Value} (F : Arv Z h a k .byte z vs dv) {j : Int32} {v : Value} (hj : ¬ j < 0 ∧ j < z) (hv : vs.getD j.toNatClampNeg dv = v)
    {g : JFrame} (hg : g.method = m) {rest : List Value} (hs : g.stack = .int j :: .ref a :: rest) (hd : decode c.code g.pc = .ok (.baload, 1)) : ∀ target, Steps p.tables e below (T.setTop { g with pc := g.pc + 1, stack := v :: rest }) target → Steps p.tables e below (T.setTop g) target := by
  obtain ⟨cl, Ar, -, S, Ng, H, -⟩ := F
  have hin := inb_of S hj
  exact X.baloadBytes hx (j := j) (v := v) (by rw [eT]; exact Ar.1) (State.isArrayOf_alike hZ.alike Ar.2.1) Ar.2.2 hin (Has.at H hin hv) (g := g) hg hs hd

theorem own_sub_words : ∀ d ∈ StrChars.Road.words, d ∈ tables_1 := by decide +kernel
theorem own_c16 {x : Int32} (h0 : 0 ≤ x.toInt) (h1 : x.toInt < 65536) : x.toUInt32.toUInt16.toUInt32.toInt32 = x := by
  have := c_i2c x
  apply Int32.toInt_inj.mp
  omega
theorem own_nar16 {x : Int32} (h0 : 0 ≤ x.toInt) (h1 : x.toInt < 65536) : nar .char x = x := own_c16 h0 h1
theorem own_b8_of {x : Int32} (h0 : 0 ≤ x.toInt) (h1 : x.toInt < 256) : own_b8 x := by
  constructor
  · rw [Int32.lt_iff_toInt_lt, show (0 : Int32).toInt = 0 from rfl]; omega
  · rw [Int32.lt_iff_toInt_lt, show (255 : Int32).toInt = 255 from rfl]; omega
theorem own_b8_mask (y : Int32) : own_b8 ((y &&& (255 : Int32)).toUInt32.toUInt16.toUInt32.toInt32) := by
  have h1 := c_mask y (255 : Int32) 8 (by decide) (by decide)
  rw [own_c16 (by rw [h1]; omega) (by rw [h1]; omega)]
  exact own_b8_of (by rw [h1]; omega) (by rw [h1]; omega)
theorem own_b8_nar {y : Int32} (h : own_b8 y) : own_b8 (nar .char y) := by
  have h1 := h.1; have h2 := h.2
  rw [Int32.lt_iff_toInt_lt, show (0 : Int32).toInt = 0 from rfl] at h1
  rw [Int32.lt_iff_toInt_lt, show (255 : Int32).toInt = 255 from rfl] at h2
  rw [own_nar16 (by omega) (by omega)]; exact h
/-- the size: one to three -/
theorem own_size (n : Int32) : (1 : Int32) + (n &&& (2147483647 : Int32)) % (3 : Int32) = 1 ∨ (1 : Int32) + (n &&& (2147483647 : Int32)) % (3 : Int32) = 2 ∨ (1 : Int32) + (n &&& (2147483647 : Int32)) % (3 : Int32) = 3 := by
  have h1 := c_mask n (2147483647 : Int32) 31 (by decide) (by decide)
  have h2 := (c_irem (n &&& (2147483647 : Int32)) (3 : Int32) 3 rfl).1 (by rw [h1]; omega)
  have q := c_iadd (1 : Int32) ((n &&& (2147483647 : Int32)) % (3 : Int32))
  have r := rng32 ((1 : Int32) + (n &&& (2147483647 : Int32)) % (3 : Int32))
  rw [show (1 : Int32).toInt = 1 from rfl] at q
  rw [← Int32.toInt_inj, ← Int32.toInt_inj, ← Int32.toInt_inj, show (1 : Int32).toInt = 1 from rfl, show (2 : Int32).toInt = 2 from rfl, show (3 : Int32).toInt = 3 from rfl]
  omega
theorem own_rem (i : Int32) (s : Int32) (k : Nat) (hs : s.toInt = k) (hk : 0 < k) (hk3 : k ≤ 3) : 0 ≤ ((i &&& (2147483647 : Int32)) % s).toInt ∧ ((i &&& (2147483647 : Int32)) % s).toInt < k := by
  have h1 := c_mask i (2147483647 : Int32) 31 (by decide) (by decide)
  have hn : 0 ≤ (i &&& (2147483647 : Int32)).toInt := by rw [h1]; omega
  rcases (by omega : k = 1 ∨ k = 2 ∨ k = 3) with rfl | rfl | rfl
  · have h2 := (c_irem (i &&& (2147483647 : Int32)) s 1 hs).1 hn
    rw [h2]; omega
  · have h2 := (c_irem (i &&& (2147483647 : Int32)) s 2 hs).1 hn
    rw [h2]; omega
  · have h2 := (c_irem (i &&& (2147483647 : Int32)) s 3 hs).1 hn
    rw [h2]; omega
/-- the Class object, by the tables alone -/
def own_Mir (Z : State) (C : String) (m : Addr) : Prop := ∃ (c : ClassId) (k : Class), Z.vm.findClass C = some c ∧ Z.vm.classes[c]? = some k ∧ k.mirror = some m
section OwnMir
variable {p : Program} {l : Launch} {e : Env} {R : Room} {s : State} {m : MethodId} {args : Array Value} {below : List Frame} {meth : Method} {c : Code} {T : State} {locs : List Loc} {cells slots : Nat} {Z : State} {h : Heap} {a : Addr}
theorem own_gcls (X : Stand p l e R s m args below meth c T locs cells slots) (hx : p.tables.exec = Jvm.exec) (hZ : Z.Warmed39 s.vm) {a0 : Array Value} {own C : String} {index : Nat} (hown : s.vm.findClass own = some m.cls)
    (w1 : (Cond.methodLink own index ⟨"java/lang/Object", "getClass", "()Ljava/lang/Class;"⟩).before a0 Z = true) (w2 : (Cond.declares ⟨"java/lang/Object", "getClass", "()Ljava/lang/Class;"⟩).before a0 Z = true) (w3 : (Cond.noSuperclass "java/lang/Object").before a0 Z = true) (w4 : (Cond.selects C ⟨"java/lang/Object", "getClass", "()Ljava/lang/Class;"⟩ ⟨"java/lang/Object", "getClass", "()Ljava/lang/Class;"⟩).before a0 Z = true)
    (w5 : (Cond.instanceMethod ⟨"java/lang/Object", "getClass", "()Ljava/lang/Class;"⟩).before a0 Z = true) (w6 : (Cond.native ⟨"java/lang/Object", "getClass", "()Ljava/lang/Class;"⟩).before a0 Z = true) (eT : T.heap = h) (E : Exa Z h a C) {mr : Addr} (M : own_Mir Z C mr)
    {g : JFrame} (hg : g.method = m) (hsize : g.locals.size = c.maxLocals) {rest : List Value} (hs : g.stack = .ref a :: rest) (hd : decode c.code g.pc = .ok (.invokevirtual index, 3)) (hf : 1 ≤ R.frames) {W : Nat} (hW : 2 * g.monitorRoom + (rest.map fun v => v.category).sum ≤ W) (hl : W + (nativeFrameWords "java/lang/Object" "getClass" 1 + 11) ≤ R.locals) :
    ∃ T', Stand p l e R s m args below meth c T' locs cells slots ∧ T'.heap = h ∧ ∀ target, Steps p.tables e below (T'.setTop { g with pc := g.pc + 3, stack := .ref mr :: rest }) target → Steps p.tables e below (T.setTop g) target := by
  obtain ⟨cB, kB, i1, i2, i3⟩ := isOf hZ eT E
  obtain ⟨cc, kc, m1, m2, m3⟩ := M
  rw [hZ.alike.findClass] at i1
  cases i1.symm.trans m1
  obtain ⟨k', q, ek⟩ := hZ.alike.2.2 _ _ m2
  obtain ⟨vm', X', st⟩ := X.getClassOf hx hown (mvT hZ w1) (mvT hZ w2) (nf_top (args := #[]) (mvT hZ w3)) (mvT hZ w4) (mvT hZ w5) (mvT hZ w6) (by rw [hZ.alike.findClass]; exact m1) i3 q (by rw [ek]; exact m3) hg hsize hs hd hf (by omega)
  exact ⟨_, X', eT, st⟩
theorem own_ldcM (X : Stand p l e R s m args below meth c T locs cells slots) (hx : p.tables.exec = Jvm.exec) (hZ : Z.Warmed39 s.vm) {a0 : Array Value} {own C : String} {index : Nat} (hown : s.vm.findClass own = some m.cls) (w : (Cond.classLink own index C).before a0 Z = true) (eT : T.heap = h) {mr : Addr} (M : own_Mir Z C mr)
    {g : JFrame} (hg : g.method = m) (hd : decode c.code g.pc = .ok (.ldc index, 2)) :
    ∃ T', Stand p l e R s m args below meth c T' locs cells slots ∧ T'.heap = h ∧ ∀ target, Steps p.tables e below (T'.setTop { g with pc := g.pc + 2, stack := .ref mr :: g.stack }) target → Steps p.tables e below (T.setTop g) target := by
  obtain ⟨cc, kc, m1, m2, m3⟩ := M
  obtain ⟨k', q, ek⟩ := hZ.alike.2.2 _ _ m2
  have hev : (Term.mirror C).eval args s none [] s = some (.ref mr) := by
    simp only [Term.eval, hZ.alike.findClass, m1, q, Option.bind_eq_bind, Option.bind_some]
    rw [ek]; simp [m3]
  obtain ⟨vm', X', st⟩ := X.ldcMirror hx hown (mv hZ w) hev hg hd
  exact ⟨_, X', eT, st⟩
end OwnMir
theorem own_NSroot {Z : State} {a0 : Array Value} {O K : String} {n : Nat} (w : (Cond.noSuperclass O).before a0 Z = true) (wk : (Cond.instantiable K n).before a0 Z = true) (hn : O ≠ K) : NS Z O K := by
  obtain ⟨c, k, h1, h2, h3, -, -⟩ := Cond.noSuperclass_spec w
  obtain ⟨t, kt, g1, -⟩ := Cond.instantiable_spec wk
  have ne := ids_ne h1 g1 hn
  refine ⟨c, t, h1, g1, fun fuel => ?_⟩
  cases fuel with
  | zero => rfl
  | succ f => simp [Vm.isSubclassAux, ne, h2, h3]
theorem own_NSno {Z : State} {a0 : Array Value} {C S K : String} {n : Nat} (w : (Cond.superclass C S).before a0 Z = true) (wk : (Cond.instantiable K n).before a0 Z = true) (nn : NS Z C K) (hn : C ≠ K) : ∃ c t, Z.vm.findClass C = some c ∧ Z.vm.findClass K = some t ∧ Z.vm.assignable c t = false := by
  obtain ⟨c, t, h0, g0, n3⟩ := nn
  obtain ⟨p, k, kp, h1, h2, h3, h4, h5, -, h7⟩ := Cond.superclass_spec h0 w
  obtain ⟨t', kt, g1, g2, g5, g7, -⟩ := Cond.instantiable_spec wk
  cases g0.symm.trans g1
  have g7' : kt.isInterface = false := by
    cases hi : kt.isInterface with
    | false => rfl
    | true => rw [hi] at g7; cases g7
  have ne := ids_ne h0 g0 hn
  refine ⟨c, t, h0, g0, ?_⟩
  show Z.vm.assignableAux (255 + 1) c t = false
  simp [Vm.assignableAux, ne, h2, g2, h5, g5, g7', Vm.isSubclass, n3]
theorem own_idx1 (i : Int32) : (i &&& (2147483647 : Int32)) % (1 : Int32) = 0 := by
  have h := own_rem i (1 : Int32) 1 rfl (by decide) (by decide)
  rw [← Int32.toInt_inj, show (0 : Int32).toInt = 0 from rfl]; omega
theorem own_idx2 (i : Int32) : (i &&& (2147483647 : Int32)) % (2 : Int32) = 0 ∨ (i &&& (2147483647 : Int32)) % (2 : Int32) = 1 := by
  have h := own_rem i (2 : Int32) 2 rfl (by decide) (by decide)
  rw [← Int32.toInt_inj, ← Int32.toInt_inj, show (0 : Int32).toInt = 0 from rfl, show (1 : Int32).toInt = 1 from rfl]; omega
theorem own_idx3 (i : Int32) : (i &&& (2147483647 : Int32)) % (3 : Int32) = 0 ∨ (i &&& (2147483647 : Int32)) % (3 : Int32) = 1 ∨ (i &&& (2147483647 : Int32)) % (3 : Int32) = 2 := by
  have h := own_rem i (3 : Int32) 3 rfl (by decide) (by decide)
  rw [← Int32.toInt_inj, ← Int32.toInt_inj, ← Int32.toInt_inj, show (0 : Int32).toInt = 0 from rfl, show (1 : Int32).toInt = 1 from rfl, show (2 : Int32).toInt = 2 from rfl]; omega
theorem own_eqInt {args : Array Value} {s : State} {t : Term} {n : Int32} (h : (Cond.eq t (Term.int n)).value args s none s [] = some true) : t.eval args s none [] s = some (.int n) := by
  obtain ⟨x, y, ex, ey, kx, ky⟩ := cmp_v (Or.inl h)
  have e : y = .int n := (Option.some.inj ((Term.int_eval n).symm.trans ey)).symm
  subst e
  obtain ⟨z, rfl⟩ := ky
  have := gotT (Cond.eq_ints ex (Term.int_eval n)) h
  rw [ex, this]

/-- a String whose value is null yet is no literal's -/
theorem own_safe_null {Z : State} {EL : List (String × Nat)} {vm : Vm} {h : Heap} {x : Addr} (hal : Z.vm.Alike vm) (E : Exa Z h x "java/lang/String") (F : Fld Z h x "java/lang/String" "value" "[B" .null) : Safe Z EL vm h x := fun B => by
  obtain ⟨p, hp, u, a, hb, q, hq, S, hy⟩ := B
  have hd := S.hd
  obtain ⟨cS, ⟨⟨s1, s2, s3, ⟨cv, kv, iv, s4, s4'⟩, ⟨cc, kc, ic, s5, s5'⟩, s6, s7, s8, s9, s10, s11, s12, s13, s14, s15, s16⟩, hfS, hcS⟩, ⟨kS, k1, k2, k3⟩, hB, hbyt⟩ := S
  rcases hy with e1 | e1
  · obtain ⟨kv', z4⟩ := ff_back (U := Wst Z vm h) hal s4
    have G : Fld Z h q.sa "java/lang/String" "value" "[B" (.ref q.sd) := ⟨q.sC, cv, kv', iv, q.fSV, s1, z4, s6, s2, s3, by rw [← hal.assignable]; exact s4', s8⟩
    exact Fld.ne F G (by simp) e1
  · obtain ⟨cell, k, e2, e3, e4, -⟩ := E
    rw [e1] at e2
    have hd' : h[q.sd]? = some q.SA := hd
    cases e2.symm.trans hd'
    have hB' : vm.findClass "[B" = some q.SA.cls := hB
    rw [hal.findClass] at hB'
    exact ids_ne e3 hB' (by decide) rfl

theorem own_strAtoms {Z : State} {a0 : Array Value} (hw : ∀ d ∈ tables_1, d.before a0 Z = true) : ∀ a ∈ Bundle.stringAtoms, a.before a0 Z = true := by
  intro a ha
  simp only [Bundle.stringAtoms, List.mem_cons, List.not_mem_nil, or_false] at ha
  rcases ha with rfl | rfl | rfl | rfl | rfl | rfl | rfl
  · exact hw _ (List.mem_of_getElem? (i := 7) rfl)
  · exact hw _ (List.mem_of_getElem? (i := 6) rfl)
  · exact hw _ (List.mem_of_getElem? (i := 20) rfl)
  · exact hw _ (List.mem_of_getElem? (i := 21) rfl)
  · exact hw _ (List.mem_of_getElem? (i := 22) rfl)
  · exact hw _ (List.mem_of_getElem? (i := 23) rfl)
  · exact hw _ (List.mem_of_getElem? (i := 24) rfl)
def own_EL : List (String × Nat) := [("java/lang/String", 7)]
theorem own_EW {Z : State} {a0 : Array Value} (hw : ∀ d ∈ tables_1, d.before a0 Z = true) : EW Z a0 own_EL := (EW.cons (wT hw 19 rfl) (by decide) EW.nil)
def Q_rmI0 (Z : State) (a : Addr) (b : Addr) (h0 : Heap) (n0 : Nat) (v : Option Value) (h : Heap) (L : List Loc) : Prop := v = none ∧ Fr n0 L ∧ Keep h0 h [a] ∧ Exa Z h a "java/lang/String" ∧ True
theorem own_h1 : plainName "java/lang/String" = true := by first | (simp [plainName, overriddenIn]; done) | decide +kernel
theorem own_h2 : decode jdk_42_method_149_code 0 = .ok (.aload_n 0, 1) := by decide +kernel
theorem own_h3 : decode jdk_42_method_149_code 1 = .ok (.invokespecial 1, 3) := by decide +kernel
theorem own_h4 : decode jdk_42_method_149_code 4 = .ok (.iload_n 3, 1) := by decide +kernel
theorem own_h5 : decode jdk_42_method_149_code 5 = .ok (.ifCond .ne 22, 3) := by decide +kernel
theorem own_h6 : decode jdk_42_method_149_code 8 = .ok (.aload_n 0, 1) := by decide +kernel
theorem own_h7 : decode jdk_42_method_149_code 9 = .ok (.ldc 7, 2) := by decide +kernel
theorem own_h8 : decode jdk_42_method_149_code 11 = .ok (.getfield 9, 3) := by decide +kernel
theorem own_h9 : decode jdk_42_method_149_code 14 = .ok (.putfield 9, 3) := by decide +kernel
theorem own_h10 : decode jdk_42_method_149_code 17 = .ok (.aload_n 0, 1) := by decide +kernel
theorem own_h11 : decode jdk_42_method_149_code 18 = .ok (.ldc 7, 2) := by decide +kernel
theorem own_h12 : decode jdk_42_method_149_code 20 = .ok (.getfield 15, 3) := by decide +kernel
theorem own_h13 : decode jdk_42_method_149_code 23 = .ok (.putfield 15, 3) := by decide +kernel
theorem own_h14 : decode jdk_42_method_149_code 26 = .ok (.return_, 1) := by decide +kernel
set_option maxRecDepth 65536 in
set_option maxHeartbeats 40000000 in
theorem rmI0 (l : Launch) (Z : State) (a0 : Array Value) (hw : ∀ d ∈ tables_1, d.before a0 Z = true) (ws : List Jvm.Cond) (a : Addr) (b : Addr) (h0 : Heap) (n0 : Nat) (Z0 : n0 ≤ h0.size) (f0_ : Exa Z h0 a "java/lang/String") (f1_ : Fld Z h0 a "java/lang/String" "value" "[B" .null) (f2_ : Fld Z h0 a "java/lang/String" "coder" "B" (.int (0 : Int32))) (f3_ : n0 ≤ a)  :
    MetFree l (⟨"java/lang/String", "<init>", "([CIILjava/lang/Void;)V"⟩ : MethodName) (head1 (Jvm.Cond.code (⟨"java/lang/String", "<init>", "([CIILjava/lang/Void;)V"⟩ : MethodName) jdk_42_method_149_code 6 none :: ws) (rO 1 4 8 12)) (fun ar_ U => ar_ = #[(.ref a), (.ref b), (.int (0 : Int32)), (.int (0 : Int32)), .null] ∧ Z.Warmed39 U.vm ∧ U.heap = h0 ∧ CHv Z own_EL U.vm h0) (fun _ _ _ _ _ => True) (fun _ U o U' => ∃ v L, o = .returned v ∧ Q_rmI0 Z a b h0 n0 v U'.heap L ∧ CHr Z own_EL U.vm U.heap U'.vm U'.heap ∧ ReturnedEndW U o U' L (rO 1 4 8 12).cells (rO 1 4 8 12).slots) := by
 refine MetFree.of_bodySF (plainFor_of_name own_h1) hisR ?_
 intro p e s m args below meth c s₁ Bd hml0 hP hK
 obtain ⟨rfl, hZ, hh, hCH⟩ := hP
 have hx := Bd.exec
 have hby := Bd.bytes
 have hml : c.maxLocals = 6 := hml0
 have hown : s.vm.findClass "java/lang/String" = some m.cls := findClass_of_methodNamed Bd.named
 have hnm := (name_of_methodNamed Bd.named Bd.method).1
 have X0 : Stand p l e (rO 1 4 8 12) (s.setVm s.vm) m #[(.ref a), (.ref b), (.int (0 : Int32)), (.int (0 : Int32)), .null] below meth c s₁ [] 0 0 := Stand.of_body Bd
 have hS0 : s.Since s.vm 0 := (State.WarmedH.refl s).since 0
 have hk0 : 0 ≤ h0.size := Nat.zero_le _
 have hZ : Z.Warmed39 (s.setVm s.vm).vm := hZ
 have hown : (s.setVm s.vm).vm.findClass "java/lang/String" = some m.cls := hown
 have Cr0 : CHr Z own_EL s.vm h0 s.vm h0 := CHr.refl hCH
 have e0 : s₁.heap = h0 := by rw [← hh, Bd.state]; rfl
 have N0 := Fr.nil n0
 obtain ⟨B_, hB_⟩ : ∃ z, z = s₁.setTop (entryFrame m #[(.ref a), (.ref b), (.int (0 : Int32)), (.int (0 : Int32)), .null] 6) := ⟨_, rfl⟩
 have k0 : own_K p e below (s₁.setTop (mkF m 0 #[.val (.ref a), .val (.ref b), .val (.int (0 : Int32)), .val (.int (0 : Int32)), .val .null, .unset] [])) B_ := by rw [hB_]; exact fun t k => castTop (by clear k; first | (simp [entryFrame, mkF, argsToLocals, Value.category, maxLocals]; done) | rfl) k
 have K0 : Keep h0 h0 [a] := Keep.refl _ _
 have Sf0 := own_safe_null (EL := own_EL) hZ.alike f0_ f1_
 have k1 : own_J p e below s₁ m 1 #[.val (.ref a), .val (.ref b), .val (.int (0 : Int32)), .val (.int (0 : Int32)), .val .null, .unset] [(.ref a)] B_ := fun t_ hh => k0 t_ (by
  refine XS.aloadN X0.here hx rfl (hb hby own_h2) rfl rfl ?_
  exact hh)
 obtain ⟨T21, X22, e23, st24⟩ := initO X0 hx hZ hown (wT hw 16 rfl) (wT hw 17 rfl) (wT hw 18 rfl) e0 (g := (mkF m 1 #[.val (.ref a), .val (.ref b), .val (.int (0 : Int32)), .val (.int (0 : Int32)), .val .null, .unset] [(.ref a)])) rfl (by rw [hml]; rfl) rfl (hb hby own_h3) (by decide) (W := 0) (by show 2 * 0 + _ ≤ _; exact Nat.le_of_eq rfl) (by decide)
 have k2 : own_J p e below T21 m 4 #[.val (.ref a), .val (.ref b), .val (.int (0 : Int32)), .val (.int (0 : Int32)), .val .null, .unset] [] B_ := fun t_ hh => k1 t_ (st24 t_ hh)
 have k3 : own_J p e below T21 m 9 #[.val (.ref a), .val (.ref b), .val (.int (0 : Int32)), .val (.int (0 : Int32)), .val .null, .unset] [(.ref a)] B_ := fun t_ hh => k2 t_ (by
  refine XS.iloadN X22.here hx rfl (hb hby own_h4) rfl ?_
  refine XS.ifNo X22.here hx rfl (hb hby own_h5) rfl (by decide) ?_
  refine XS.aloadN X22.here hx rfl (hb hby own_h6) rfl rfl ?_
  exact hh)
 obtain ⟨a25, T26, h27, k_28, b29, kb30, X31, e32, E33, hS34, hk35, hZ36, hown37, E38, F39, F40, F41, l42, l43, C44, Lt45, ne46, st47⟩ := ldcCH X22 hx hZ hown (wT hw 19 rfl) (own_strAtoms hw) e23 hS0 hk0 (own_EW hw) (List.mem_of_getElem? (i := 0) rfl) Cr0.1 (vs := []) (z := (0 : Int32)) ⟨by decide, rfl⟩ (by decide) rfl (g := (mkF m 9 #[.val (.ref a), .val (.ref b), .val (.int (0 : Int32)), .val (.int (0 : Int32)), .val .null, .unset] [(.ref a)])) rfl (hb hby own_h7) (n := 0) (by decide) (by decide) (by decide) (by decide)
 have Sf48 := C44.safe f0_.lt Sf0
 have ne49 := (ne46 _ Sf48).1
 have ne50 := (ne46 _ Sf48).2
 have F51 := Exa.ext (h' := h27) E33 f0_
 have F52 := Fld.ext (h' := h27) E33 f1_
 have F53 := Fld.ext (h' := h27) E33 f2_
 have Z54 : n0 ≤ h27.size := Nat.le_trans Z0 E33.1
 have P55 : Keep h0 h27 [a] := K0.ext E33
 have Cr56 := Cr0.trans C44
 have k4 : own_J p e below T26 m 11 #[.val (.ref a), .val (.ref b), .val (.int (0 : Int32)), .val (.int (0 : Int32)), .val .null, .unset] [(.ref a25), (.ref a)] B_ := fun t_ hh => k3 t_ (st47 t_ hh)
 obtain ⟨T57, X58, e59, st60⟩ := getF X31 hx hZ36 hown37 (host := "") (Or.inl (wT hw 25 rfl)) Via.refl e32 F40 (g := (mkF m 11 #[.val (.ref a), .val (.ref b), .val (.int (0 : Int32)), .val (.int (0 : Int32)), .val .null, .unset] [(.ref a25), (.ref a)])) rfl rfl (hb hby own_h8)
 have k5 : own_J p e below T57 m 14 #[.val (.ref a), .val (.ref b), .val (.int (0 : Int32)), .val (.int (0 : Int32)), .val .null, .unset] [(.ref b29), (.ref a)] B_ := fun t_ hh => k4 t_ (st60 t_ hh)
 obtain ⟨T61, h62, X63, e64, W65, st66⟩ := putF X58 hx hZ36 hown37 (host := "") (Or.inl (wT hw 25 rfl)) Via.refl e59 F52 F51 (Or.inr ⟨(wT hw 21 rfl), rfl, hnm⟩) (wT hw 6 rfl) (ty := .array .byte) (by decide) rfl rfl (g := (mkF m 14 #[.val (.ref a), .val (.ref b), .val (.int (0 : Int32)), .val (.int (0 : Int32)), .val .null, .unset] [(.ref b29), (.ref a)])) rfl rfl (hb hby own_h9)
 have N67 := Fr.snoc X63 N0 f3_
 have hk68 := Nat.le_trans hk35 (show h27.size ≤ h62.size from Nat.le_of_eq W65.size.symm)
 have F69 := Exa.wr W65 F51
 have F70 : Fld Z h62 a "java/lang/String" "value" "[B" (.ref b29) := Fld.same W65 F52
 have F71 := Fld.other W65 F53 (Or.inr (slot_ne (Or.inr (wT hw 22 rfl)) (Or.inr (wT hw 21 rfl)) (by decide) (t := .byte) (t' := (.array .byte)) (by decide) (by decide)))
 have F72 := Exa.wr W65 E38
 have F73 := Fld.other W65 F40 (Or.inl (Ne.symm ne49))
 have F74 := Fld.other W65 F39 (Or.inl (Ne.symm ne49))
 have Z75 : n0 ≤ h62.size := W65.size ▸ Z54
 have P76 : Keep h0 h62 [a] := P55.wr W65 (Or.inl (List.mem_of_getElem? (i := 0) rfl))
 have Sf77 := Safe.wr W65 Sf48 Cr56.1 Sf48
 have Cr78 := Cr56.trans (CHr.wr W65 Sf48 Cr56.1)
 have k6 : own_J p e below T61 m 17 #[.val (.ref a), .val (.ref b), .val (.int (0 : Int32)), .val (.int (0 : Int32)), .val .null, .unset] [] B_ := fun t_ hh => k5 t_ (st66 t_ hh)
 have k7 : own_J p e below T61 m 18 #[.val (.ref a), .val (.ref b), .val (.int (0 : Int32)), .val (.int (0 : Int32)), .val .null, .unset] [(.ref a)] B_ := fun t_ hh => k6 t_ (by
  refine XS.aloadN X63.here hx rfl (hb hby own_h10) rfl rfl ?_
  exact hh)
 obtain ⟨a79, T80, h81, k_82, b83, kb84, X85, e86, E87, hS88, hk89, hZ90, hown91, E92, F93, F94, F95, l96, l97, C98, Lt99, ne100, st101⟩ := ldcCH X63 hx hZ36 hown37 (wT hw 19 rfl) (own_strAtoms hw) e64 hS34 hk68 (own_EW hw) (List.mem_of_getElem? (i := 0) rfl) Cr78.1 (vs := []) (z := (0 : Int32)) ⟨by decide, rfl⟩ (by decide) rfl (g := (mkF m 18 #[.val (.ref a), .val (.ref b), .val (.int (0 : Int32)), .val (.int (0 : Int32)), .val .null, .unset] [(.ref a)])) rfl (hb hby own_h11) (n := 0) (by decide) (by decide) (by decide) (by decide)
 have Sf102 := C98.safe F69.lt Sf77
 have ne103 := (ne100 _ Sf102).1
 have ne104 := (ne100 _ Sf102).2
 have F105 := Exa.ext (h' := h81) E87 F69
 have F106 := Fld.ext (h' := h81) E87 F70
 have F107 := Fld.ext (h' := h81) E87 F71
 have F108 := Exa.ext (h' := h81) E87 F72
 have F109 := Fld.ext (h' := h81) E87 F73
 have F110 := Fld.ext (h' := h81) E87 F74
 have Z111 : n0 ≤ h81.size := Nat.le_trans Z75 E87.1
 have P112 : Keep h0 h81 [a] := P76.ext E87
 have Cr113 := Cr78.trans C98
 have k8 : own_J p e below T80 m 20 #[.val (.ref a), .val (.ref b), .val (.int (0 : Int32)), .val (.int (0 : Int32)), .val .null, .unset] [(.ref a79), (.ref a)] B_ := fun t_ hh => k7 t_ (st101 t_ hh)
 obtain ⟨T114, X115, e116, st117⟩ := getF X85 hx hZ90 hown91 (host := "") (Or.inl (wT hw 26 rfl)) Via.refl e86 F93 (g := (mkF m 20 #[.val (.ref a), .val (.ref b), .val (.int (0 : Int32)), .val (.int (0 : Int32)), .val .null, .unset] [(.ref a79), (.ref a)])) rfl rfl (hb hby own_h12)
 have k9 : own_J p e below T114 m 23 #[.val (.ref a), .val (.ref b), .val (.int (0 : Int32)), .val (.int (0 : Int32)), .val .null, .unset] [(.int (0 : Int32)), (.ref a)] B_ := fun t_ hh => k8 t_ (st117 t_ hh)
 obtain ⟨T118, h119, X120, e121, W122, st123⟩ := putF X115 hx hZ90 hown91 (host := "") (Or.inl (wT hw 26 rfl)) Via.refl e116 F107 F105 (Or.inr ⟨(wT hw 22 rfl), rfl, hnm⟩) (wT hw 6 rfl) (ty := .byte) (by decide) rfl rfl (g := (mkF m 23 #[.val (.ref a), .val (.ref b), .val (.int (0 : Int32)), .val (.int (0 : Int32)), .val .null, .unset] [(.int (0 : Int32)), (.ref a)])) rfl rfl (hb hby own_h13)
 have N124 := Fr.snoc X120 N67 f3_
 have hk125 := Nat.le_trans hk89 (show h81.size ≤ h119.size from Nat.le_of_eq W122.size.symm)
 have F126 := Exa.wr W122 F105
 have F127 := Fld.other W122 F106 (Or.inr (slot_ne (Or.inr (wT hw 21 rfl)) (Or.inr (wT hw 22 rfl)) (by decide) (t := (.array .byte)) (t' := .byte) (by decide) (by decide)))
 have F128 : Fld Z h119 a "java/lang/String" "coder" "B" (.int (0 : Int32)) := Fld.same W122 F107
 have F129 := Exa.wr W122 F108
 have F130 := Fld.other W122 F109 (Or.inl (Ne.symm ne49))
 have F131 := Fld.other W122 F110 (Or.inl (Ne.symm ne49))
 have F132 := Exa.wr W122 E92
 have F133 := Fld.other W122 F94 (Or.inl (Ne.symm ne103))
 have F134 := Fld.other W122 F93 (Or.inl (Ne.symm ne103))
 have Z135 : n0 ≤ h119.size := W122.size ▸ Z111
 have P136 : Keep h0 h119 [a] := P112.wr W122 (Or.inl (List.mem_of_getElem? (i := 0) rfl))
 have Sf137 := Safe.wr W122 Sf102 Cr113.1 Sf102
 have Cr138 := Cr113.trans (CHr.wr W122 Sf102 Cr113.1)
 have k10 : own_J p e below T118 m 26 #[.val (.ref a), .val (.ref b), .val (.int (0 : Int32)), .val (.int (0 : Int32)), .val .null, .unset] [] B_ := fun t_ hh => k9 t_ (st123 t_ hh)
 obtain ⟨fs, hr, hrun, hended, hEnd⟩ := X120.leaveW hS88 (by rw [e121]; exact hk125) (v := none) (fun _ => rfl)
 refine ⟨_, _, (own_from hB_ (k10 _ (X120.returnOut hx Bd.returns (hb hby own_h14) hr))), hrun, hended, _, _, rfl, ?_, ?_, hEnd.1, hEnd.2.1, hEnd.2.2.1, hEnd.2.2.2.mono (own_l rfl) (own_l rfl)⟩
 rotate_left
 · show CHr Z own_EL s.vm s.heap T118.vm T118.heap
   rw [hh, e121]
   exact Cr138.trans (CHv.at X120 hZ90 (own_EW hw) Cr138.1)
 show Q_rmI0 Z a b h0 n0 _ T118.heap _
 rw [e121]
 exact ⟨rfl, N124, P136, F126, trivial⟩
def Q_rmS0 (Z : State) (a : Addr) (b : Addr) (kb : ClassId) (h0 : Heap) (n0 : Nat) (v : Option Value) (h : Heap) (L : List Loc) : Prop := v = none ∧ Fr n0 L ∧ Keep h0 h [a] ∧ Exa Z h a "java/lang/String" ∧ True
theorem own_h15 : decode jdk_42_method_3_code 0 = .ok (.aload_n 0, 1) := by decide +kernel
theorem own_h16 : decode jdk_42_method_3_code 1 = .ok (.aload_n 1, 1) := by decide +kernel
theorem own_h17 : decode jdk_42_method_3_code 2 = .ok (.iconst 0, 1) := by decide +kernel
theorem own_h18 : decode jdk_42_method_3_code 3 = .ok (.aload_n 1, 1) := by decide +kernel
theorem own_h19 : decode jdk_42_method_3_code 4 = .ok (.arraylength, 1) := by decide +kernel
theorem own_h20 : decode jdk_42_method_3_code 5 = .ok (.aconst_null, 1) := by decide +kernel
theorem own_h21 : decode jdk_42_method_3_code 6 = .ok (.invokespecial 27, 3) := by decide +kernel
theorem own_h22 : parseMethodDescriptor "([CIILjava/lang/Void;)V" = some ⟨[.array .char, .int, .int, .object "java/lang/Void"], none⟩ := by decide +kernel
theorem own_h23 : decode jdk_42_method_3_code 9 = .ok (.return_, 1) := by decide +kernel
set_option maxRecDepth 65536 in
set_option maxHeartbeats 40000000 in
theorem rmS0 (l : Launch) (Z : State) (a0 : Array Value) (hw : ∀ d ∈ tables_1, d.before a0 Z = true) (ws : List Jvm.Cond) (a : Addr) (b : Addr) (kb : ClassId) (h0 : Heap) (n0 : Nat) (Z0 : n0 ≤ h0.size) (f0_ : Exa Z h0 a "java/lang/String") (f1_ : Fld Z h0 a "java/lang/String" "value" "[B" .null) (f2_ : Fld Z h0 a "java/lang/String" "coder" "B" (.int (0 : Int32))) (f3_ : n0 ≤ a) (f4_ : Arv Z h0 b kb .char (0 : Int32) [] (.int (0 : Int32))) (f5_ : b ≠ a)  :
    MetFree l (⟨"java/lang/String", "<init>", "([C)V"⟩ : MethodName) (head1 (Jvm.Cond.code (⟨"java/lang/String", "<init>", "([C)V"⟩ : MethodName) jdk_42_method_3_code 2 none :: ws) (rO 2 4 8 29)) (fun ar_ U => ar_ = #[(.ref a), (.ref b)] ∧ Z.Warmed39 U.vm ∧ U.heap = h0 ∧ CHv Z own_EL U.vm h0) (fun _ _ _ _ _ => True) (fun _ U o U' => ∃ v L, o = .returned v ∧ Q_rmS0 Z a b kb h0 n0 v U'.heap L ∧ CHr Z own_EL U.vm U.heap U'.vm U'.heap ∧ ReturnedEndW U o U' L (rO 2 4 8 29).cells (rO 2 4 8 29).slots) := by
 refine MetFree.of_bodySF (plainFor_of_name own_h1) hisR ?_
 intro p e s m args below meth c s₁ Bd hml0 hP hK
 obtain ⟨rfl, hZ, hh, hCH⟩ := hP
 have hx := Bd.exec
 have hby := Bd.bytes
 have hml : c.maxLocals = 2 := hml0
 have hown : s.vm.findClass "java/lang/String" = some m.cls := findClass_of_methodNamed Bd.named
 have hnm := (name_of_methodNamed Bd.named Bd.method).1
 have X0 : Stand p l e (rO 2 4 8 29) (s.setVm s.vm) m #[(.ref a), (.ref b)] below meth c s₁ [] 0 0 := Stand.of_body Bd
 have hS0 : s.Since s.vm 0 := (State.WarmedH.refl s).since 0
 have hk0 : 0 ≤ h0.size := Nat.zero_le _
 have hZ : Z.Warmed39 (s.setVm s.vm).vm := hZ
 have hown : (s.setVm s.vm).vm.findClass "java/lang/String" = some m.cls := hown
 have Cr0 : CHr Z own_EL s.vm h0 s.vm h0 := CHr.refl hCH
 have e0 : s₁.heap = h0 := by rw [← hh, Bd.state]; rfl
 have N0 := Fr.nil n0
 obtain ⟨B_, hB_⟩ : ∃ z, z = s₁.setTop (entryFrame m #[(.ref a), (.ref b)] 2) := ⟨_, rfl⟩
 have k0 : own_K p e below (s₁.setTop (mkF m 0 #[.val (.ref a), .val (.ref b)] [])) B_ := by rw [hB_]; exact fun t k => castTop (by clear k; first | (simp [entryFrame, mkF, argsToLocals, Value.category, maxLocals]; done) | rfl) k
 have K0 : Keep h0 h0 [a] := Keep.refl _ _
 have Sf0 := own_safe_null (EL := own_EL) hZ.alike f0_ f1_
 obtain ⟨cl21, Ar22, -, S23, Ng24, -, -⟩ := id f4_
 have k1 : own_J p e below s₁ m 6 #[.val (.ref a), .val (.ref b)] [.null, (.int (0 : Int32)), (.int (0 : Int32)), (.ref b), (.ref a)] B_ := fun t_ hh => k0 t_ (by
  refine XS.aloadN X0.here hx rfl (hb hby own_h15) rfl rfl ?_
  refine XS.aloadN X0.here hx rfl (hb hby own_h16) rfl rfl ?_
  refine XS.iconst X0.here hx rfl (hb hby own_h17) ?_
  refine XS.aloadN X0.here hx rfl (hb hby own_h18) rfl rfl ?_
  refine X0.arraylength hx (by rw [e0]; exact Ar22.1) (State.isArrayOf_alike hZ.alike Ar22.2.1) (g := (mkF m 4 #[.val (.ref a), .val (.ref b)] [(.ref b), (.int (0 : Int32)), (.ref b), (.ref a)])) rfl rfl (hb hby own_h19) _ ?_
  rw [len_of S23 Ng24]
  refine XS.aconstNull X0.here hx rfl (hb hby own_h20) ?_
  exact hh)
 obtain ⟨_, _, ⟨T25, L26, k_27, n_28⟩, -, X29, hSc36, hgr37, ⟨Lc30, hQ31, l_32, y_33, z_34, C38⟩, st35⟩ := X0.specialBackS hx (y := (⟨"java/lang/String", "<init>", "([CIILjava/lang/Void;)V"⟩ : MethodName)) rfl hown (mvT hZ (wT hw 12 rfl)) (mvT hZ (wT hw 13 rfl)) (mvT hZ (wT hw 15 rfl)) (by decide) (backOfSH (W := 0) (rmI0 l Z a0 hw [] a b h0 n0 Z0 f0_ f1_ f2_ f3_ ) hZ (wT hw 15 rfl) (wT hw 7 rfl) (by decide) (by decide) (own_EW hw) Cr0.1) (g := (mkF m 6 #[.val (.ref a), .val (.ref b)] [.null, (.int (0 : Int32)), (.int (0 : Int32)), (.ref b), (.ref a)])) rfl (by rw [hml]; rfl) (Steps.refl _) (a := a) (argsL := [(.ref b), (.int (0 : Int32)), (.int (0 : Int32)), .null]) (rest := []) (lenOf own_h22 rfl) rfl (by show 2 * 0 + _ ≤ _; exact Nat.le_of_eq rfl) (hb hby own_h21) (fun _ _ => ⟨rfl, e0, own_l rfl, own_l rfl⟩)
 dsimp only [Pt.U, Pt.locs, Pt.cells, Pt.slots] at X29 hSc36 hgr37 l_32 y_33 z_34 st35 hQ31 C38
 subst l_32 y_33 z_34
 obtain ⟨X39, hS40, hZ41, hown42⟩ := rebS hS0 (by rw [e0]; exact hk0) X29 hSc36 hgr37 hZ hown
 have Sf43 := C38.safe f0_.lt Sf0
 have Cr44 := Cr0.trans C38
 obtain ⟨rfl, N45, K47, F46, -⟩ := hQ31
 have N48 := Fr.app N0 N45
 have F49 := f0_.keep K47
 have F50 := f4_.keep K47 (ninS f5_ nin0)
 have Z51 : n0 ≤ T25.heap.size := Nat.le_trans Z0 K47.1
 have hk52 := Nat.le_trans hk0 K47.1
 have P53 : Keep h0 T25.heap [a] := K0.trans K47 (allS (P := fun x => x ∈ [a] ∨ h0.size ≤ x) (Or.inl (List.mem_of_getElem? (i := 0) rfl)) all0)
 have e54 : T25.heap = T25.heap := rfl
 have k2 : own_J p e below T25 m 9 #[.val (.ref a), .val (.ref b)] [] B_ := fun t_ hh => k1 t_ (st35.trans hh)
 obtain ⟨fs, hr, hrun, hended, hEnd⟩ := X39.leaveW hS40 (by rw [e54]; exact (Nat.le_refl T25.heap.size)) (v := none) (fun _ => rfl)
 refine ⟨_, _, (own_from hB_ (k2 _ (X39.returnOut hx Bd.returns (hb hby own_h23) hr))), hrun, hended, _, _, rfl, ?_, ?_, hEnd.1, hEnd.2.1, hEnd.2.2.1, hEnd.2.2.2.mono (own_l rfl) (own_l rfl)⟩
 rotate_left
 · show CHr Z own_EL s.vm s.heap T25.vm T25.heap
   rw [hh, e54]
   exact Cr44.trans (CHv.at X39 hZ41 (own_EW hw) Cr44.1)
 show Q_rmS0 Z a b kb h0 n0 _ T25.heap _
 rw [e54]
 exact ⟨rfl, N48, P53, F46, trivial⟩
def Q_rmStr (Z : State) (xv : Int32) (h0 : Heap) (n0 : Nat) (v : Option Value) (h : Heap) (L : List Loc) : Prop := ∃ r : Addr, v = some (.ref r) ∧ Fr n0 L ∧ Keep h0 h [] ∧ Exa Z h r "java/lang/String" ∧ n0 ≤ r ∧ h0.size ≤ r ∧ True
theorem own_h24 : plainName "com/example/level_slate/levelslate/TopicCandidatesGetCandidatePinLaw" = true := by first | (simp [plainName, overriddenIn]; done) | decide +kernel
theorem own_h25 : decode method_2_code 0 = .ok (.iload_n 0, 1) := by decide +kernel
theorem own_h26 : decode method_2_code 1 = .ok (.bipush 24, 2) := by decide +kernel
theorem own_h27 : decode method_2_code 3 = .ok (.iushr, 1) := by decide +kernel
theorem own_h28 : decode method_2_code 4 = .ok (.iconst 3, 1) := by decide +kernel
theorem own_h29 : decode method_2_code 5 = .ok (.iand, 1) := by decide +kernel
theorem own_h30 : decode method_2_code 6 = .ok (.istore_n 1, 1) := by decide +kernel
theorem own_h31 : decode method_2_code 7 = .ok (.iload_n 0, 1) := by decide +kernel
theorem own_h32 : decode method_2_code 8 = .ok (.sipush 255, 3) := by decide +kernel
theorem own_h33 : decode method_2_code 11 = .ok (.iand, 1) := by decide +kernel
theorem own_h34 : decode method_2_code 12 = .ok (.i2c, 1) := by decide +kernel
theorem own_h35 : decode method_2_code 13 = .ok (.istore_n 2, 1) := by decide +kernel
theorem own_h36 : decode method_2_code 14 = .ok (.iload_n 0, 1) := by decide +kernel
theorem own_h37 : decode method_2_code 15 = .ok (.bipush 8, 2) := by decide +kernel
theorem own_h38 : decode method_2_code 17 = .ok (.iushr, 1) := by decide +kernel
theorem own_h39 : decode method_2_code 18 = .ok (.sipush 255, 3) := by decide +kernel
theorem own_h40 : decode method_2_code 21 = .ok (.iand, 1) := by decide +kernel
theorem own_h41 : decode method_2_code 22 = .ok (.i2c, 1) := by decide +kernel
theorem own_h42 : decode method_2_code 23 = .ok (.istore_n 3, 1) := by decide +kernel
theorem own_h43 : decode method_2_code 24 = .ok (.iload_n 0, 1) := by decide +kernel
theorem own_h44 : decode method_2_code 25 = .ok (.bipush 16, 2) := by decide +kernel
theorem own_h45 : decode method_2_code 27 = .ok (.iushr, 1) := by decide +kernel
theorem own_h46 : decode method_2_code 28 = .ok (.sipush 255, 3) := by decide +kernel
theorem own_h47 : decode method_2_code 31 = .ok (.iand, 1) := by decide +kernel
theorem own_h48 : decode method_2_code 32 = .ok (.i2c, 1) := by decide +kernel
theorem own_h49 : decode method_2_code 33 = .ok (.istore 4, 2) := by decide +kernel
theorem own_h50 : decode method_2_code 35 = .ok (.iload_n 1, 1) := by decide +kernel
theorem own_h51 : decode method_2_code 36 = .ok (.ifCond .ne 14, 3) := by decide +kernel
theorem own_h52 : decode method_2_code 39 = .ok (.new 7, 3) := by decide +kernel
theorem own_h53 : decode method_2_code 42 = .ok (.dup, 1) := by decide +kernel
theorem own_h54 : decode method_2_code 43 = .ok (.iconst 0, 1) := by decide +kernel
theorem own_h55 : decode method_2_code 44 = .ok (.newarray .char, 2) := by decide +kernel
theorem own_h56 : decode method_2_code 46 = .ok (.invokespecial 9, 3) := by decide +kernel
theorem own_h57 : parseMethodDescriptor "([C)V" = some ⟨[.array .char], none⟩ := by decide +kernel
theorem own_h58 : decode method_2_code 49 = .ok (.areturn, 1) := by decide +kernel
theorem own_h59 : decode method_2_code 50 = .ok (.iload_n 1, 1) := by decide +kernel
theorem own_h60 : decode method_2_code 51 = .ok (.iconst 1, 1) := by decide +kernel
theorem own_h61 : decode method_2_code 52 = .ok (.if_icmp .ne 18, 3) := by decide +kernel
theorem own_h62 : decode method_2_code 55 = .ok (.new 7, 3) := by decide +kernel
theorem own_h63 : decode method_2_code 58 = .ok (.dup, 1) := by decide +kernel
theorem own_h64 : decode method_2_code 59 = .ok (.iconst 1, 1) := by decide +kernel
theorem own_h65 : decode method_2_code 60 = .ok (.newarray .char, 2) := by decide +kernel
theorem own_h66 : decode method_2_code 62 = .ok (.dup, 1) := by decide +kernel
theorem own_h67 : decode method_2_code 63 = .ok (.iconst 0, 1) := by decide +kernel
theorem own_h68 : decode method_2_code 64 = .ok (.iload_n 2, 1) := by decide +kernel
theorem own_h69 : decode method_2_code 65 = .ok (.castore, 1) := by decide +kernel
theorem own_h70 : decode method_2_code 66 = .ok (.invokespecial 9, 3) := by decide +kernel
theorem own_h71 : decode method_2_code 69 = .ok (.areturn, 1) := by decide +kernel
theorem own_h72 : decode method_2_code 70 = .ok (.iload_n 1, 1) := by decide +kernel
theorem own_h73 : decode method_2_code 71 = .ok (.iconst 2, 1) := by decide +kernel
theorem own_h74 : decode method_2_code 72 = .ok (.if_icmp .ne 22, 3) := by decide +kernel
theorem own_h75 : decode method_2_code 75 = .ok (.new 7, 3) := by decide +kernel
theorem own_h76 : decode method_2_code 78 = .ok (.dup, 1) := by decide +kernel
theorem own_h77 : decode method_2_code 79 = .ok (.iconst 2, 1) := by decide +kernel
theorem own_h78 : decode method_2_code 80 = .ok (.newarray .char, 2) := by decide +kernel
theorem own_h79 : decode method_2_code 82 = .ok (.dup, 1) := by decide +kernel
theorem own_h80 : decode method_2_code 83 = .ok (.iconst 0, 1) := by decide +kernel
theorem own_h81 : decode method_2_code 84 = .ok (.iload_n 2, 1) := by decide +kernel
theorem own_h82 : decode method_2_code 85 = .ok (.castore, 1) := by decide +kernel
theorem own_h83 : decode method_2_code 86 = .ok (.dup, 1) := by decide +kernel
theorem own_h84 : decode method_2_code 87 = .ok (.iconst 1, 1) := by decide +kernel
theorem own_h85 : decode method_2_code 88 = .ok (.iload_n 3, 1) := by decide +kernel
theorem own_h86 : decode method_2_code 89 = .ok (.castore, 1) := by decide +kernel
theorem own_h87 : decode method_2_code 90 = .ok (.invokespecial 9, 3) := by decide +kernel
theorem own_h88 : decode method_2_code 93 = .ok (.areturn, 1) := by decide +kernel
theorem own_h89 : decode method_2_code 94 = .ok (.new 7, 3) := by decide +kernel
theorem own_h90 : decode method_2_code 97 = .ok (.dup, 1) := by decide +kernel
theorem own_h91 : decode method_2_code 98 = .ok (.iconst 3, 1) := by decide +kernel
theorem own_h92 : decode method_2_code 99 = .ok (.newarray .char, 2) := by decide +kernel
theorem own_h93 : decode method_2_code 101 = .ok (.dup, 1) := by decide +kernel
theorem own_h94 : decode method_2_code 102 = .ok (.iconst 0, 1) := by decide +kernel
theorem own_h95 : decode method_2_code 103 = .ok (.iload_n 2, 1) := by decide +kernel
theorem own_h96 : decode method_2_code 104 = .ok (.castore, 1) := by decide +kernel
theorem own_h97 : decode method_2_code 105 = .ok (.dup, 1) := by decide +kernel
theorem own_h98 : decode method_2_code 106 = .ok (.iconst 1, 1) := by decide +kernel
theorem own_h99 : decode method_2_code 107 = .ok (.iload_n 3, 1) := by decide +kernel
theorem own_h100 : decode method_2_code 108 = .ok (.castore, 1) := by decide +kernel
theorem own_h101 : decode method_2_code 109 = .ok (.dup, 1) := by decide +kernel
theorem own_h102 : decode method_2_code 110 = .ok (.iconst 2, 1) := by decide +kernel
theorem own_h103 : decode method_2_code 111 = .ok (.iload 4, 2) := by decide +kernel
theorem own_h104 : decode method_2_code 113 = .ok (.castore, 1) := by decide +kernel
theorem own_h105 : decode method_2_code 114 = .ok (.invokespecial 9, 3) := by decide +kernel
theorem own_h106 : decode method_2_code 117 = .ok (.areturn, 1) := by decide +kernel
set_option maxRecDepth 65536 in
set_option maxHeartbeats 40000000 in
theorem rmStr (l : Launch) (Z : State) (a0 : Array Value) (hw : ∀ d ∈ tables_1, d.before a0 Z = true) (ws : List Jvm.Cond) (xv : Int32) (h0 : Heap) (n0 : Nat) (Z0 : n0 ≤ h0.size) (f0_ : Old Z n0 h0) (ci : Int32) (sC : Sta Z Z.heap "java/lang/String" "COMPACT_STRINGS" "Z" (.int ci)) (hc : ¬ ci = 0) :
    MetFree l (⟨"com/example/level_slate/levelslate/TopicCandidatesGetCandidatePinLaw", "str", "(I)Ljava/lang/String;"⟩ : MethodName) (head1 (Jvm.Cond.code (⟨"com/example/level_slate/levelslate/TopicCandidatesGetCandidatePinLaw", "str", "(I)Ljava/lang/String;"⟩ : MethodName) method_2_code 5 (some (.object "java/lang/String")) :: ws) (rO 4 6 12 66)) (fun ar_ U => ar_ = #[(.int xv)] ∧ Z.Warmed39 U.vm ∧ U.heap = h0 ∧ CHv Z own_EL U.vm h0) (fun _ _ _ _ _ => True) (fun _ U o U' => ∃ v L, o = .returned v ∧ Q_rmStr Z xv h0 n0 v U'.heap L ∧ CHr Z own_EL U.vm U.heap U'.vm U'.heap ∧ ReturnedEndW U o U' L (rO 4 6 12 66).cells (rO 4 6 12 66).slots) := by
 refine MetFree.of_bodySF (plainFor_of_name own_h24) hisR ?_
 intro p e s m args below meth c s₁ Bd hml0 hP hK
 obtain ⟨rfl, hZ, hh, hCH⟩ := hP
 have hx := Bd.exec
 have hby := Bd.bytes
 have hml : c.maxLocals = 5 := hml0
 have hown : s.vm.findClass "com/example/level_slate/levelslate/TopicCandidatesGetCandidatePinLaw" = some m.cls := findClass_of_methodNamed Bd.named
 have hnm := (name_of_methodNamed Bd.named Bd.method).1
 have X0 : Stand p l e (rO 4 6 12 66) (s.setVm s.vm) m #[(.int xv)] below meth c s₁ [] 0 0 := Stand.of_body Bd
 have hS0 : s.Since s.vm 0 := (State.WarmedH.refl s).since 0
 have hk0 : 0 ≤ h0.size := Nat.zero_le _
 have hZ : Z.Warmed39 (s.setVm s.vm).vm := hZ
 have hown : (s.setVm s.vm).vm.findClass "com/example/level_slate/levelslate/TopicCandidatesGetCandidatePinLaw" = some m.cls := hown
 have Cr0 : CHr Z own_EL s.vm h0 s.vm h0 := CHr.refl hCH
 have e0 : s₁.heap = h0 := by rw [← hh, Bd.state]; rfl
 have N0 := Fr.nil n0
 obtain ⟨B_, hB_⟩ : ∃ z, z = s₁.setTop (entryFrame m #[(.int xv)] 5) := ⟨_, rfl⟩
 have k0 : own_K p e below (s₁.setTop (mkF m 0 #[.val (.int xv), .unset, .unset, .unset, .unset] [])) B_ := by rw [hB_]; exact fun t k => castTop (by clear k; first | (simp [entryFrame, mkF, argsToLocals, Value.category, maxLocals]; done) | rfl) k
 have K0 : Keep h0 h0 [] := Keep.refl _ _
 have k1 : own_J p e below s₁ m 36 #[.val (.int xv), .val (.int (((xv.toUInt32 >>> ((24 : Int32) &&& 31).toUInt32).toInt32) &&& (3 : Int32))), .val (.int ((xv &&& (255 : Int32)).toUInt32.toUInt16.toUInt32.toInt32)), .val (.int ((((xv.toUInt32 >>> ((8 : Int32) &&& 31).toUInt32).toInt32) &&& (255 : Int32)).toUInt32.toUInt16.toUInt32.toInt32)), .val (.int ((((xv.toUInt32 >>> ((16 : Int32) &&& 31).toUInt32).toInt32) &&& (255 : Int32)).toUInt32.toUInt16.toUInt32.toInt32))] [(.int (((xv.toUInt32 >>> ((24 : Int32) &&& 31).toUInt32).toInt32) &&& (3 : Int32)))] B_ := fun t_ hh => k0 t_ (by
  refine XS.iloadN X0.here hx rfl (hb hby own_h25) rfl ?_
  refine XS.bipush X0.here hx rfl (hb hby own_h26) ?_
  refine XS.iushr X0.here hx rfl (hb hby own_h27) rfl ?_
  refine XS.iconst X0.here hx rfl (hb hby own_h28) ?_
  refine XS.iand X0.here hx rfl (hb hby own_h29) rfl ?_
  refine XS.istoreN X0.here hx rfl (hb hby own_h30) rfl (l' := #[.val (.int xv), .val (.int (((xv.toUInt32 >>> ((24 : Int32) &&& 31).toUInt32).toInt32) &&& (3 : Int32))), .unset, .unset, .unset]) rfl ?_
  refine XS.iloadN X0.here hx rfl (hb hby own_h31) rfl ?_
  refine XS.sipush X0.here hx rfl (hb hby own_h32) ?_
  refine XS.iand X0.here hx rfl (hb hby own_h33) rfl ?_
  refine XS.i2c X0.here hx rfl (hb hby own_h34) rfl ?_
  refine XS.istoreN X0.here hx rfl (hb hby own_h35) rfl (l' := #[.val (.int xv), .val (.int (((xv.toUInt32 >>> ((24 : Int32) &&& 31).toUInt32).toInt32) &&& (3 : Int32))), .val (.int ((xv &&& (255 : Int32)).toUInt32.toUInt16.toUInt32.toInt32)), .unset, .unset]) rfl ?_
  refine XS.iloadN X0.here hx rfl (hb hby own_h36) rfl ?_
  show Steps p.tables e below (s₁.setTop (mkF m 15 #[.val (.int xv), .val (.int (((xv.toUInt32 >>> ((24 : Int32) &&& 31).toUInt32).toInt32) &&& (3 : Int32))), .val (.int ((xv &&& (255 : Int32)).toUInt32.toUInt16.toUInt32.toInt32)), .unset, .unset] [(.int xv)])) _
  refine XS.bipush X0.here hx rfl (hb hby own_h37) ?_
  refine XS.iushr X0.here hx rfl (hb hby own_h38) rfl ?_
  refine XS.sipush X0.here hx rfl (hb hby own_h39) ?_
  refine XS.iand X0.here hx rfl (hb hby own_h40) rfl ?_
  refine XS.i2c X0.here hx rfl (hb hby own_h41) rfl ?_
  refine XS.istoreN X0.here hx rfl (hb hby own_h42) rfl (l' := #[.val (.int xv), .val (.int (((xv.toUInt32 >>> ((24 : Int32) &&& 31).toUInt32).toInt32) &&& (3 : Int32))), .val (.int ((xv &&& (255 : Int32)).toUInt32.toUInt16.toUInt32.toInt32)), .val (.int ((((xv.toUInt32 >>> ((8 : Int32) &&& 31).toUInt32).toInt32) &&& (255 : Int32)).toUInt32.toUInt16.toUInt32.toInt32)), .unset]) rfl ?_
  refine XS.iloadN X0.here hx rfl (hb hby own_h43) rfl ?_
  refine XS.bipush X0.here hx rfl (hb hby own_h44) ?_
  refine XS.iushr X0.here hx rfl (hb hby own_h45) rfl ?_
  refine XS.sipush X0.here hx rfl (hb hby own_h46) ?_
  refine XS.iand X0.here hx rfl (hb hby own_h47) rfl ?_
  refine XS.i2c X0.here hx rfl (hb hby own_h48) rfl ?_
  show Steps p.tables e below (s₁.setTop (mkF m 33 #[.val (.int xv), .val (.int (((xv.toUInt32 >>> ((24 : Int32) &&& 31).toUInt32).toInt32) &&& (3 : Int32))), .val (.int ((xv &&& (255 : Int32)).toUInt32.toUInt16.toUInt32.toInt32)), .val (.int ((((xv.toUInt32 >>> ((8 : Int32) &&& 31).toUInt32).toInt32) &&& (255 : Int32)).toUInt32.toUInt16.toUInt32.toInt32)), .unset] [(.int ((((xv.toUInt32 >>> ((16 : Int32) &&& 31).toUInt32).toInt32) &&& (255 : Int32)).toUInt32.toUInt16.toUInt32.toInt32))])) _
  refine XS.istore X0.here hx rfl (hb hby own_h49) rfl (l' := #[.val (.int xv), .val (.int (((xv.toUInt32 >>> ((24 : Int32) &&& 31).toUInt32).toInt32) &&& (3 : Int32))), .val (.int ((xv &&& (255 : Int32)).toUInt32.toUInt16.toUInt32.toInt32)), .val (.int ((((xv.toUInt32 >>> ((8 : Int32) &&& 31).toUInt32).toInt32) &&& (255 : Int32)).toUInt32.toUInt16.toUInt32.toInt32)), .val (.int ((((xv.toUInt32 >>> ((16 : Int32) &&& 31).toUInt32).toInt32) &&& (255 : Int32)).toUInt32.toUInt16.toUInt32.toInt32))]) rfl ?_
  refine XS.iloadN X0.here hx rfl (hb hby own_h50) rfl ?_
  exact hh)
 by_cases c36 : (((xv.toUInt32 >>> ((24 : Int32) &&& 31).toUInt32).toInt32) &&& (3 : Int32)) = 0
 ·
  have k2 : own_J p e below s₁ m 39 #[.val (.int xv), .val (.int (((xv.toUInt32 >>> ((24 : Int32) &&& 31).toUInt32).toInt32) &&& (3 : Int32))), .val (.int ((xv &&& (255 : Int32)).toUInt32.toUInt16.toUInt32.toInt32)), .val (.int ((((xv.toUInt32 >>> ((8 : Int32) &&& 31).toUInt32).toInt32) &&& (255 : Int32)).toUInt32.toUInt16.toUInt32.toInt32)), .val (.int ((((xv.toUInt32 >>> ((16 : Int32) &&& 31).toUInt32).toInt32) &&& (255 : Int32)).toUInt32.toUInt16.toUInt32.toInt32))] [] B_ := fun t_ hh => k1 t_ (by
   refine XS.ifNo X0.here hx rfl (hb hby own_h51) rfl (own_ifF_ne c36) ?_
   exact hh)
  obtain ⟨T21, h22, X23, e24, E25, A26, D27, U29, st28⟩ := newO X0 hx hZ hown (wT hw 5 rfl) (wT hw 6 rfl) (wT hw 7 rfl) e0 (g := (mkF m 39 #[.val (.int xv), .val (.int (((xv.toUInt32 >>> ((24 : Int32) &&& 31).toUInt32).toInt32) &&& (3 : Int32))), .val (.int ((xv &&& (255 : Int32)).toUInt32.toUInt16.toUInt32.toInt32)), .val (.int ((((xv.toUInt32 >>> ((8 : Int32) &&& 31).toUInt32).toInt32) &&& (255 : Int32)).toUInt32.toUInt16.toUInt32.toInt32)), .val (.int ((((xv.toUInt32 >>> ((16 : Int32) &&& 31).toUInt32).toInt32) &&& (255 : Int32)).toUInt32.toUInt16.toUInt32.toInt32))] [])) rfl (hb hby own_h52) (by decide) (by decide)
  obtain ⟨a30, g31⟩ : ∃ z, z = h0.size := ⟨_, rfl⟩
  rw [← g31] at A26 D27 U29 st28
  have H032 : h0.size ≤ a30 := Nat.le_trans K0.1 (Nat.le_of_eq g31.symm)
  have G33 : n0 ≤ a30 := Nat.le_trans Z0 (Nat.le_of_eq g31.symm)
  have hk34 := Nat.le_trans hk0 E25.1
  have Sf35 := Safe.ext E25 Cr0.1 (Safe.new (x := a30) (Nat.le_of_eq g31.symm))
  have Z36 : n0 ≤ h22.size := Nat.le_trans Z0 E25.1
  have O37 := f0_.ext E25
  have P38 : Keep h0 h22 [] := K0.ext E25
  have Cr39 := Cr0.trans (CHr.ext E25 Cr0.1)
  have F40 : Fld Z h22 a30 "java/lang/String" "value" "[B" .null := D27 (Or.inr (wT hw 21 rfl)) (ty := .array .byte) (by decide)
  have F41 : Fld Z h22 a30 "java/lang/String" "coder" "B" (.int (0 : Int32)) := D27 (Or.inr (wT hw 22 rfl)) (ty := .byte) (by decide)
  have k3 : own_J p e below T21 m 42 #[.val (.int xv), .val (.int (((xv.toUInt32 >>> ((24 : Int32) &&& 31).toUInt32).toInt32) &&& (3 : Int32))), .val (.int ((xv &&& (255 : Int32)).toUInt32.toUInt16.toUInt32.toInt32)), .val (.int ((((xv.toUInt32 >>> ((8 : Int32) &&& 31).toUInt32).toInt32) &&& (255 : Int32)).toUInt32.toUInt16.toUInt32.toInt32)), .val (.int ((((xv.toUInt32 >>> ((16 : Int32) &&& 31).toUInt32).toInt32) &&& (255 : Int32)).toUInt32.toUInt16.toUInt32.toInt32))] [(.ref a30)] B_ := fun t_ hh => k2 t_ (st28 t_ hh)
  have k4 : own_J p e below T21 m 44 #[.val (.int xv), .val (.int (((xv.toUInt32 >>> ((24 : Int32) &&& 31).toUInt32).toInt32) &&& (3 : Int32))), .val (.int ((xv &&& (255 : Int32)).toUInt32.toUInt16.toUInt32.toInt32)), .val (.int ((((xv.toUInt32 >>> ((8 : Int32) &&& 31).toUInt32).toInt32) &&& (255 : Int32)).toUInt32.toUInt16.toUInt32.toInt32)), .val (.int ((((xv.toUInt32 >>> ((16 : Int32) &&& 31).toUInt32).toInt32) &&& (255 : Int32)).toUInt32.toUInt16.toUInt32.toInt32))] [(.int (0 : Int32)), (.ref a30), (.ref a30)] B_ := fun t_ hh => k3 t_ (by
   refine XS.dup X23.here hx rfl (hb hby own_h53) rfl rfl ?_
   refine XS.iconst X23.here hx rfl (hb hby own_h54) ?_
   exact hh)
  obtain ⟨T42, h43, kA44, X45, e46, E47, A48, st50⟩ := newP X23 hx hZ (wT hw 8 rfl) e24 (g := (mkF m 44 #[.val (.int xv), .val (.int (((xv.toUInt32 >>> ((24 : Int32) &&& 31).toUInt32).toInt32) &&& (3 : Int32))), .val (.int ((xv &&& (255 : Int32)).toUInt32.toUInt16.toUInt32.toInt32)), .val (.int ((((xv.toUInt32 >>> ((8 : Int32) &&& 31).toUInt32).toInt32) &&& (255 : Int32)).toUInt32.toUInt16.toUInt32.toInt32)), .val (.int ((((xv.toUInt32 >>> ((16 : Int32) &&& 31).toUInt32).toInt32) &&& (255 : Int32)).toUInt32.toUInt16.toUInt32.toInt32))] [(.int (0 : Int32)), (.ref a30), (.ref a30)])) rfl (hb hby own_h55) rfl (by decide) (cap := 0) (by decide) (by decide) (by decide) (by decide)
  obtain ⟨a51, g52⟩ : ∃ z, z = h22.size := ⟨_, rfl⟩
  rw [← g52] at A48 st50
  have H053 : h0.size ≤ a51 := Nat.le_trans P38.1 (Nat.le_of_eq g52.symm)
  have G54 : n0 ≤ a51 := Nat.le_trans Z36 (Nat.le_of_eq g52.symm)
  have hk55 := Nat.le_trans hk34 E47.1
  have Sf56 := Safe.ext E47 Cr39.1 (Safe.new (x := a51) (Nat.le_of_eq g52.symm))
  have F57 := Exa.ext (h' := h43) E47 A26
  have F58 := Fld.ext (h' := h43) E47 F40
  have F59 := Fld.ext (h' := h43) E47 F41
  have Z60 : n0 ≤ h43.size := Nat.le_trans Z36 E47.1
  have O61 := O37.ext E47
  have P62 : Keep h0 h43 [] := P38.ext E47
  have Sf63 := Safe.ext E47 Cr39.1 Sf35
  have Cr64 := Cr39.trans (CHr.ext E47 Cr39.1)
  have V65 : Arv Z h43 a51 kA44 .char (0 : Int32) [] (.int (0 : Int32)) := Arv.pad (Arv.new A48 (by decide)) (pad_rep [] (.int (0 : Int32)) 0)
  have k5 : own_J p e below T42 m 46 #[.val (.int xv), .val (.int (((xv.toUInt32 >>> ((24 : Int32) &&& 31).toUInt32).toInt32) &&& (3 : Int32))), .val (.int ((xv &&& (255 : Int32)).toUInt32.toUInt16.toUInt32.toInt32)), .val (.int ((((xv.toUInt32 >>> ((8 : Int32) &&& 31).toUInt32).toInt32) &&& (255 : Int32)).toUInt32.toUInt16.toUInt32.toInt32)), .val (.int ((((xv.toUInt32 >>> ((16 : Int32) &&& 31).toUInt32).toInt32) &&& (255 : Int32)).toUInt32.toUInt16.toUInt32.toInt32))] [(.ref a51), (.ref a30), (.ref a30)] B_ := fun t_ hh => k4 t_ (st50 t_ hh)
  have ne77 : a30 ≠ a51 := by rw [g52]; exact Nat.ne_of_lt A26.lt
  obtain ⟨_, _, ⟨T66, L67, k_68, n_69⟩, -, X70, hSc78, hgr79, ⟨Lc71, hQ72, l_73, y_74, z_75, C80⟩, st76⟩ := X45.specialBackS hx (y := (⟨"java/lang/String", "<init>", "([C)V"⟩ : MethodName)) rfl hown (mvT hZ (wT hw 9 rfl)) (mvT hZ (wT hw 10 rfl)) (mvT hZ (wT hw 11 rfl)) (by decide) (backOfSH (W := 1) (rmS0 l Z a0 hw [] a30 a51 kA44 h43 n0 Z60 F57 F58 F59 G33 V65 (Ne.symm ne77) ) hZ (wT hw 11 rfl) (wT hw 7 rfl) (by decide) (by decide) (own_EW hw) Cr64.1) (g := (mkF m 46 #[.val (.int xv), .val (.int (((xv.toUInt32 >>> ((24 : Int32) &&& 31).toUInt32).toInt32) &&& (3 : Int32))), .val (.int ((xv &&& (255 : Int32)).toUInt32.toUInt16.toUInt32.toInt32)), .val (.int ((((xv.toUInt32 >>> ((8 : Int32) &&& 31).toUInt32).toInt32) &&& (255 : Int32)).toUInt32.toUInt16.toUInt32.toInt32)), .val (.int ((((xv.toUInt32 >>> ((16 : Int32) &&& 31).toUInt32).toInt32) &&& (255 : Int32)).toUInt32.toUInt16.toUInt32.toInt32))] [(.ref a51), (.ref a30), (.ref a30)])) rfl (by rw [hml]; rfl) (Steps.refl _) (a := a30) (argsL := [(.ref a51)]) (rest := [(.ref a30)]) (lenOf own_h57 rfl) rfl (by show 2 * 0 + _ ≤ _; exact Nat.le_of_eq rfl) (hb hby own_h56) (fun _ _ => ⟨rfl, e46, own_l rfl, own_l rfl⟩)
  dsimp only [Pt.U, Pt.locs, Pt.cells, Pt.slots] at X70 hSc78 hgr79 l_73 y_74 z_75 st76 hQ72 C80
  subst l_73 y_74 z_75
  obtain ⟨X81, hS82, hZ83, hown84⟩ := rebS hS0 (by rw [e46]; exact hk55) X70 hSc78 hgr79 hZ hown
  have Sf85 := C80.safe F57.lt Sf63
  have Sf86 := C80.safe V65.lt Sf56
  have Cr87 := Cr64.trans C80
  obtain ⟨rfl, N88, K90, F89, -⟩ := hQ72
  have N91 := Fr.app N0 N88
  have F92 := F57.keep K90
  have F93 := V65.keep K90 (ninS (Ne.symm ne77) nin0)
  have Z94 : n0 ≤ T66.heap.size := Nat.le_trans Z60 K90.1
  have hk95 := Nat.le_trans hk55 K90.1
  have O96 := O61.keep K90 (allS G33 all0)
  have P97 : Keep h0 T66.heap [] := P62.trans K90 (allS (P := fun x => x ∈ [] ∨ h0.size ≤ x) (Or.inr H032) all0)
  have e98 : T66.heap = T66.heap := rfl
  have k6 : own_J p e below T66 m 49 #[.val (.int xv), .val (.int (((xv.toUInt32 >>> ((24 : Int32) &&& 31).toUInt32).toInt32) &&& (3 : Int32))), .val (.int ((xv &&& (255 : Int32)).toUInt32.toUInt16.toUInt32.toInt32)), .val (.int ((((xv.toUInt32 >>> ((8 : Int32) &&& 31).toUInt32).toInt32) &&& (255 : Int32)).toUInt32.toUInt16.toUInt32.toInt32)), .val (.int ((((xv.toUInt32 >>> ((16 : Int32) &&& 31).toUInt32).toInt32) &&& (255 : Int32)).toUInt32.toUInt16.toUInt32.toInt32))] [(.ref a30)] B_ := fun t_ hh => k5 t_ (st76.trans hh)
  obtain ⟨fs, hr, hrun, hended, hEnd⟩ := X81.leaveW hS82 (by rw [e98]; exact (Nat.le_refl T66.heap.size)) (v := some (.ref a30)) (fun h => by rw [Bd.returns] at h; cases h)
  refine ⟨_, _, (own_from hB_ (k6 _ (retOut X81 hx (t := .object "java/lang/String") Bd.returns rfl (Or.inr (Or.inr (Or.inr (Or.inr ⟨rfl, rfl, rfl⟩)))) (hb hby own_h58) hr))), hrun, hended, _, _, rfl, ?_, ?_, hEnd.1, hEnd.2.1, hEnd.2.2.1, hEnd.2.2.2.mono (own_l rfl) (own_l rfl)⟩
  rotate_left
  · show CHr Z own_EL s.vm s.heap T66.vm T66.heap
    rw [hh, e98]
    exact Cr87.trans (CHv.at X81 hZ83 (own_EW hw) Cr87.1)
  show Q_rmStr Z xv h0 n0 _ T66.heap _
  rw [e98]
  exact ⟨a30, rfl, N91, P97, F89, G33, H032, trivial⟩
 ·
  have k7 : own_J p e below s₁ m 52 #[.val (.int xv), .val (.int (((xv.toUInt32 >>> ((24 : Int32) &&& 31).toUInt32).toInt32) &&& (3 : Int32))), .val (.int ((xv &&& (255 : Int32)).toUInt32.toUInt16.toUInt32.toInt32)), .val (.int ((((xv.toUInt32 >>> ((8 : Int32) &&& 31).toUInt32).toInt32) &&& (255 : Int32)).toUInt32.toUInt16.toUInt32.toInt32)), .val (.int ((((xv.toUInt32 >>> ((16 : Int32) &&& 31).toUInt32).toInt32) &&& (255 : Int32)).toUInt32.toUInt16.toUInt32.toInt32))] [(.int (1 : Int32)), (.int (((xv.toUInt32 >>> ((24 : Int32) &&& 31).toUInt32).toInt32) &&& (3 : Int32)))] B_ := fun t_ hh => k1 t_ (by
   refine XS.ifYes X0.here hx rfl (pc0 := 36) (pc' := 50) rfl (hb hby own_h51) rfl (own_ifT_ne c36) (by decide) (by decide) ?_
   refine XS.iloadN X0.here hx rfl (hb hby own_h59) rfl ?_
   refine XS.iconst X0.here hx rfl (hb hby own_h60) ?_
   exact hh)
  by_cases c52 : (((xv.toUInt32 >>> ((24 : Int32) &&& 31).toUInt32).toInt32) &&& (3 : Int32)) = (1 : Int32)
  ·
   have k8 : own_J p e below s₁ m 55 #[.val (.int xv), .val (.int (((xv.toUInt32 >>> ((24 : Int32) &&& 31).toUInt32).toInt32) &&& (3 : Int32))), .val (.int ((xv &&& (255 : Int32)).toUInt32.toUInt16.toUInt32.toInt32)), .val (.int ((((xv.toUInt32 >>> ((8 : Int32) &&& 31).toUInt32).toInt32) &&& (255 : Int32)).toUInt32.toUInt16.toUInt32.toInt32)), .val (.int ((((xv.toUInt32 >>> ((16 : Int32) &&& 31).toUInt32).toInt32) &&& (255 : Int32)).toUInt32.toUInt16.toUInt32.toInt32))] [] B_ := fun t_ hh => k7 t_ (by
    refine XS.icmpNo X0.here hx rfl (hb hby own_h61) rfl (own_icF_ne c52) ?_
    exact hh)
   obtain ⟨T99, h100, X101, e102, E103, A104, D105, U107, st106⟩ := newO X0 hx hZ hown (wT hw 5 rfl) (wT hw 6 rfl) (wT hw 7 rfl) e0 (g := (mkF m 55 #[.val (.int xv), .val (.int (((xv.toUInt32 >>> ((24 : Int32) &&& 31).toUInt32).toInt32) &&& (3 : Int32))), .val (.int ((xv &&& (255 : Int32)).toUInt32.toUInt16.toUInt32.toInt32)), .val (.int ((((xv.toUInt32 >>> ((8 : Int32) &&& 31).toUInt32).toInt32) &&& (255 : Int32)).toUInt32.toUInt16.toUInt32.toInt32)), .val (.int ((((xv.toUInt32 >>> ((16 : Int32) &&& 31).toUInt32).toInt32) &&& (255 : Int32)).toUInt32.toUInt16.toUInt32.toInt32))] [])) rfl (hb hby own_h62) (by decide) (by decide)
   obtain ⟨a108, g109⟩ : ∃ z, z = h0.size := ⟨_, rfl⟩
   rw [← g109] at A104 D105 U107 st106
   have H0110 : h0.size ≤ a108 := Nat.le_trans K0.1 (Nat.le_of_eq g109.symm)
   have G111 : n0 ≤ a108 := Nat.le_trans Z0 (Nat.le_of_eq g109.symm)
   have hk112 := Nat.le_trans hk0 E103.1
   have Sf113 := Safe.ext E103 Cr0.1 (Safe.new (x := a108) (Nat.le_of_eq g109.symm))
   have Z114 : n0 ≤ h100.size := Nat.le_trans Z0 E103.1
   have O115 := f0_.ext E103
   have P116 : Keep h0 h100 [] := K0.ext E103
   have Cr117 := Cr0.trans (CHr.ext E103 Cr0.1)
   have F118 : Fld Z h100 a108 "java/lang/String" "value" "[B" .null := D105 (Or.inr (wT hw 21 rfl)) (ty := .array .byte) (by decide)
   have F119 : Fld Z h100 a108 "java/lang/String" "coder" "B" (.int (0 : Int32)) := D105 (Or.inr (wT hw 22 rfl)) (ty := .byte) (by decide)
   have k9 : own_J p e below T99 m 58 #[.val (.int xv), .val (.int (((xv.toUInt32 >>> ((24 : Int32) &&& 31).toUInt32).toInt32) &&& (3 : Int32))), .val (.int ((xv &&& (255 : Int32)).toUInt32.toUInt16.toUInt32.toInt32)), .val (.int ((((xv.toUInt32 >>> ((8 : Int32) &&& 31).toUInt32).toInt32) &&& (255 : Int32)).toUInt32.toUInt16.toUInt32.toInt32)), .val (.int ((((xv.toUInt32 >>> ((16 : Int32) &&& 31).toUInt32).toInt32) &&& (255 : Int32)).toUInt32.toUInt16.toUInt32.toInt32))] [(.ref a108)] B_ := fun t_ hh => k8 t_ (st106 t_ hh)
   have k10 : own_J p e below T99 m 60 #[.val (.int xv), .val (.int (((xv.toUInt32 >>> ((24 : Int32) &&& 31).toUInt32).toInt32) &&& (3 : Int32))), .val (.int ((xv &&& (255 : Int32)).toUInt32.toUInt16.toUInt32.toInt32)), .val (.int ((((xv.toUInt32 >>> ((8 : Int32) &&& 31).toUInt32).toInt32) &&& (255 : Int32)).toUInt32.toUInt16.toUInt32.toInt32)), .val (.int ((((xv.toUInt32 >>> ((16 : Int32) &&& 31).toUInt32).toInt32) &&& (255 : Int32)).toUInt32.toUInt16.toUInt32.toInt32))] [(.int (1 : Int32)), (.ref a108), (.ref a108)] B_ := fun t_ hh => k9 t_ (by
    refine XS.dup X101.here hx rfl (hb hby own_h63) rfl rfl ?_
    refine XS.iconst X101.here hx rfl (hb hby own_h64) ?_
    exact hh)
   obtain ⟨T120, h121, kA122, X123, e124, E125, A126, st128⟩ := newP X101 hx hZ (wT hw 8 rfl) e102 (g := (mkF m 60 #[.val (.int xv), .val (.int (((xv.toUInt32 >>> ((24 : Int32) &&& 31).toUInt32).toInt32) &&& (3 : Int32))), .val (.int ((xv &&& (255 : Int32)).toUInt32.toUInt16.toUInt32.toInt32)), .val (.int ((((xv.toUInt32 >>> ((8 : Int32) &&& 31).toUInt32).toInt32) &&& (255 : Int32)).toUInt32.toUInt16.toUInt32.toInt32)), .val (.int ((((xv.toUInt32 >>> ((16 : Int32) &&& 31).toUInt32).toInt32) &&& (255 : Int32)).toUInt32.toUInt16.toUInt32.toInt32))] [(.int (1 : Int32)), (.ref a108), (.ref a108)])) rfl (hb hby own_h65) rfl (by decide) (cap := 1) (by decide) (by decide) (by decide) (by decide)
   obtain ⟨a129, g130⟩ : ∃ z, z = h100.size := ⟨_, rfl⟩
   rw [← g130] at A126 st128
   have H0131 : h0.size ≤ a129 := Nat.le_trans P116.1 (Nat.le_of_eq g130.symm)
   have G132 : n0 ≤ a129 := Nat.le_trans Z114 (Nat.le_of_eq g130.symm)
   have hk133 := Nat.le_trans hk112 E125.1
   have Sf134 := Safe.ext E125 Cr117.1 (Safe.new (x := a129) (Nat.le_of_eq g130.symm))
   have F135 := Exa.ext (h' := h121) E125 A104
   have F136 := Fld.ext (h' := h121) E125 F118
   have F137 := Fld.ext (h' := h121) E125 F119
   have Z138 : n0 ≤ h121.size := Nat.le_trans Z114 E125.1
   have O139 := O115.ext E125
   have P140 : Keep h0 h121 [] := P116.ext E125
   have Sf141 := Safe.ext E125 Cr117.1 Sf113
   have Cr142 := Cr117.trans (CHr.ext E125 Cr117.1)
   have V143 : Arv Z h121 a129 kA122 .char (1 : Int32) [(.int (0 : Int32))] (.int (0 : Int32)) := Arv.pad (Arv.new A126 (by decide)) (pad_rep [] (.int (0 : Int32)) 1)
   have k11 : own_J p e below T120 m 62 #[.val (.int xv), .val (.int (((xv.toUInt32 >>> ((24 : Int32) &&& 31).toUInt32).toInt32) &&& (3 : Int32))), .val (.int ((xv &&& (255 : Int32)).toUInt32.toUInt16.toUInt32.toInt32)), .val (.int ((((xv.toUInt32 >>> ((8 : Int32) &&& 31).toUInt32).toInt32) &&& (255 : Int32)).toUInt32.toUInt16.toUInt32.toInt32)), .val (.int ((((xv.toUInt32 >>> ((16 : Int32) &&& 31).toUInt32).toInt32) &&& (255 : Int32)).toUInt32.toUInt16.toUInt32.toInt32))] [(.ref a129), (.ref a108), (.ref a108)] B_ := fun t_ hh => k10 t_ (st128 t_ hh)
   have k12 : own_J p e below T120 m 65 #[.val (.int xv), .val (.int (((xv.toUInt32 >>> ((24 : Int32) &&& 31).toUInt32).toInt32) &&& (3 : Int32))), .val (.int ((xv &&& (255 : Int32)).toUInt32.toUInt16.toUInt32.toInt32)), .val (.int ((((xv.toUInt32 >>> ((8 : Int32) &&& 31).toUInt32).toInt32) &&& (255 : Int32)).toUInt32.toUInt16.toUInt32.toInt32)), .val (.int ((((xv.toUInt32 >>> ((16 : Int32) &&& 31).toUInt32).toInt32) &&& (255 : Int32)).toUInt32.toUInt16.toUInt32.toInt32))] [(.int ((xv &&& (255 : Int32)).toUInt32.toUInt16.toUInt32.toInt32)), (.int (0 : Int32)), (.ref a129), (.ref a129), (.ref a108), (.ref a108)] B_ := fun t_ hh => k11 t_ (by
    refine XS.dup X123.here hx rfl (hb hby own_h66) rfl rfl ?_
    refine XS.iconst X123.here hx rfl (hb hby own_h67) ?_
    refine XS.iloadN X123.here hx rfl (hb hby own_h68) rfl ?_
    exact hh)
   obtain ⟨cl144, Ar145, q146, S147, Ng148, H149, Gf150⟩ := id V143
   have hin151 := inb_of (j := (0 : Int32)) S147 (by decide)
   obtain ⟨T152, h153, X154, e155, W156, st157⟩ := stC X123 hx hZ e124 Ar145 (j := (0 : Int32)) hin151 (g := (mkF m 65 #[.val (.int xv), .val (.int (((xv.toUInt32 >>> ((24 : Int32) &&& 31).toUInt32).toInt32) &&& (3 : Int32))), .val (.int ((xv &&& (255 : Int32)).toUInt32.toUInt16.toUInt32.toInt32)), .val (.int ((((xv.toUInt32 >>> ((8 : Int32) &&& 31).toUInt32).toInt32) &&& (255 : Int32)).toUInt32.toUInt16.toUInt32.toInt32)), .val (.int ((((xv.toUInt32 >>> ((16 : Int32) &&& 31).toUInt32).toInt32) &&& (255 : Int32)).toUInt32.toUInt16.toUInt32.toInt32))] [(.int ((xv &&& (255 : Int32)).toUInt32.toUInt16.toUInt32.toInt32)), (.int (0 : Int32)), (.ref a129), (.ref a129), (.ref a108), (.ref a108)])) rfl rfl (hb hby own_h69)
   have N158 := Fr.snoc X154 N0 G132
   have hk159 := Nat.le_trans hk133 (show h121.size ≤ h153.size from Nat.le_of_eq W156.size.symm)
   have F161 := Exa.wr W156 F135
   have ne163 : a108 ≠ a129 := by rw [g130]; exact Nat.ne_of_lt A104.lt
   have F162 := Fld.other W156 F136 (Or.inl ne163)
   have F164 := Fld.other W156 F137 (Or.inl ne163)
   have Z165 : n0 ≤ h153.size := W156.size ▸ Z138
   have O166 := O139.wr W156 G132
   have P167 : Keep h0 h153 [] := P140.wr W156 (Or.inr H0131)
   have Sf168 := Safe.wr W156 Sf134 Cr142.1 Sf141
   have Sf169 := Safe.wr W156 Sf134 Cr142.1 Sf134
   have Cr170 := Cr142.trans (CHr.wr W156 Sf134 Cr142.1)
   have V171 : Arv Z h153 a129 kA122 .char (1 : Int32) [(.int (nar .char ((xv &&& (255 : Int32)).toUInt32.toUInt16.toUInt32.toInt32)))] (.int (0 : Int32)) := Arv.set Ar145 q146 S147 Ng148 H149 Gf150 (fits_nar_char _) W156 0 rfl (own_lt rfl)
   have k13 : own_J p e below T152 m 66 #[.val (.int xv), .val (.int (((xv.toUInt32 >>> ((24 : Int32) &&& 31).toUInt32).toInt32) &&& (3 : Int32))), .val (.int ((xv &&& (255 : Int32)).toUInt32.toUInt16.toUInt32.toInt32)), .val (.int ((((xv.toUInt32 >>> ((8 : Int32) &&& 31).toUInt32).toInt32) &&& (255 : Int32)).toUInt32.toUInt16.toUInt32.toInt32)), .val (.int ((((xv.toUInt32 >>> ((16 : Int32) &&& 31).toUInt32).toInt32) &&& (255 : Int32)).toUInt32.toUInt16.toUInt32.toInt32))] [(.ref a129), (.ref a108), (.ref a108)] B_ := fun t_ hh => k12 t_ (st157 t_ hh)
   have hp172 : ∀ c ∈ ([(nar .char ((xv &&& (255 : Int32)).toUInt32.toUInt16.toUInt32.toInt32))] : List Int32), own_b8 c := (List.forall_mem_cons.mpr ⟨(own_b8_nar (own_b8_mask _)), (fun _ q => nomatch q)⟩)
   have F173 : Arv Z h153 a129 kA122 .char (Int32.ofNat 1) (([(nar .char ((xv &&& (255 : Int32)).toUInt32.toUInt16.toUInt32.toInt32))] : List Int32).map Value.int) (.int 0) := V171
   obtain ⟨_, _, ⟨T174, L175, k_176, n_177⟩, -, X178, ⟨Lc179, hQ180, l_181, y_182, z_183⟩, st184⟩ := X154.specialBack hx (y := (⟨"java/lang/String", "<init>", "([C)V"⟩ : MethodName)) rfl hown (mvT hZ (wT hw 9 rfl)) (mvT hZ (wT hw 10 rfl)) (mvT hZ (wT hw 11 rfl)) (by decide) (StrChars.Road.backV (W := 1) hZ (fun d hd => hw d (own_sub_words d hd)) (kI := 4) (wT hw 6 rfl) (cs := ([(nar .char ((xv &&& (255 : Int32)).toUInt32.toUInt16.toUInt32.toInt32))] : List Int32)) (n0 := n0) G111 Z165 F161 F162 F164 F173 (Sta.ext O166.2 sC) hc rfl rfl (own_lt rfl) (own_l rfl) (fun c hc => (hp172 c hc)) rfl (by decide) (by decide)) (g := (mkF m 66 #[.val (.int xv), .val (.int (((xv.toUInt32 >>> ((24 : Int32) &&& 31).toUInt32).toInt32) &&& (3 : Int32))), .val (.int ((xv &&& (255 : Int32)).toUInt32.toUInt16.toUInt32.toInt32)), .val (.int ((((xv.toUInt32 >>> ((8 : Int32) &&& 31).toUInt32).toInt32) &&& (255 : Int32)).toUInt32.toUInt16.toUInt32.toInt32)), .val (.int ((((xv.toUInt32 >>> ((16 : Int32) &&& 31).toUInt32).toInt32) &&& (255 : Int32)).toUInt32.toUInt16.toUInt32.toInt32))] [(.ref a129), (.ref a108), (.ref a108)])) rfl (by rw [hml]; rfl) (Steps.refl _) (a := a108) (argsL := [(.ref a129)]) (rest := [(.ref a108)]) (lenOf own_h57 rfl) rfl (by show 2 * 0 + _ ≤ _; exact Nat.le_of_eq rfl) (hb hby own_h70) (fun _ _ => ⟨rfl, e155, own_l rfl, own_l rfl⟩)
   dsimp only [Pt.U, Pt.locs, Pt.cells, Pt.slots] at X178 l_181 y_182 z_183 st184 hQ180
   subst l_181 y_182 z_183
   obtain ⟨rfl, N185, K186, E187, F188, t189, kb190, G191, G192, G193, F194, F195⟩ := hQ180
   have N196 := Fr.app N158 N185
   have F197 := F161.keep K186
   have F198 := F173.keep K186 (ninS (Ne.symm ne163) nin0)
   have Z199 : n0 ≤ T174.heap.size := Nat.le_trans Z165 K186.1
   have hk200 := Nat.le_trans hk159 K186.1
   have Sf201 := Safe.keep K186 (allS Sf168 all0) Cr170.1 Sf168
   have Sf202 := Safe.keep K186 (allS Sf168 all0) Cr170.1 Sf169
   have Cr203 := Cr170.trans (CHr.keep K186 (allS Sf168 all0) Cr170.1)
   have O204 := O166.keep K186 (allS G111 all0)
   have P205 : Keep h0 T174.heap [] := P167.trans K186 (allS (P := fun x => x ∈ [] ∨ h0.size ≤ x) (Or.inr H0110) all0)
   have S206 : own_Str Z T174.heap a108 t189 kb190 ([(nar .char ((xv &&& (255 : Int32)).toUInt32.toUInt16.toUInt32.toInt32))] : List Int32) := ⟨E187, F194, F188, F195⟩
   have e207 : T174.heap = T174.heap := rfl
   have k14 : own_J p e below T174 m 69 #[.val (.int xv), .val (.int (((xv.toUInt32 >>> ((24 : Int32) &&& 31).toUInt32).toInt32) &&& (3 : Int32))), .val (.int ((xv &&& (255 : Int32)).toUInt32.toUInt16.toUInt32.toInt32)), .val (.int ((((xv.toUInt32 >>> ((8 : Int32) &&& 31).toUInt32).toInt32) &&& (255 : Int32)).toUInt32.toUInt16.toUInt32.toInt32)), .val (.int ((((xv.toUInt32 >>> ((16 : Int32) &&& 31).toUInt32).toInt32) &&& (255 : Int32)).toUInt32.toUInt16.toUInt32.toInt32))] [(.ref a108)] B_ := fun t_ hh => k13 t_ (st184.trans hh)
   obtain ⟨fs, hr, hrun, hended, hEnd⟩ := X178.leaveW hS0 (by rw [e207]; exact hk200) (v := some (.ref a108)) (fun h => by rw [Bd.returns] at h; cases h)
   refine ⟨_, _, (own_from hB_ (k14 _ (retOut X178 hx (t := .object "java/lang/String") Bd.returns rfl (Or.inr (Or.inr (Or.inr (Or.inr ⟨rfl, rfl, rfl⟩)))) (hb hby own_h71) hr))), hrun, hended, _, _, rfl, ?_, ?_, hEnd.1, hEnd.2.1, hEnd.2.2.1, hEnd.2.2.2.mono (own_l rfl) (own_l rfl)⟩
   rotate_left
   · show CHr Z own_EL s.vm s.heap T174.vm T174.heap
     rw [hh, e207]
     exact Cr203.trans (CHv.at X178 hZ (own_EW hw) Cr203.1)
   show Q_rmStr Z xv h0 n0 _ T174.heap _
   rw [e207]
   exact ⟨a108, rfl, N196, P205, E187, G111, H0110, trivial⟩
  ·
   have k15 : own_J p e below s₁ m 72 #[.val (.int xv), .val (.int (((xv.toUInt32 >>> ((24 : Int32) &&& 31).toUInt32).toInt32) &&& (3 : Int32))), .val (.int ((xv &&& (255 : Int32)).toUInt32.toUInt16.toUInt32.toInt32)), .val (.int ((((xv.toUInt32 >>> ((8 : Int32) &&& 31).toUInt32).toInt32) &&& (255 : Int32)).toUInt32.toUInt16.toUInt32.toInt32)), .val (.int ((((xv.toUInt32 >>> ((16 : Int32) &&& 31).toUInt32).toInt32) &&& (255 : Int32)).toUInt32.toUInt16.toUInt32.toInt32))] [(.int (2 : Int32)), (.int (((xv.toUInt32 >>> ((24 : Int32) &&& 31).toUInt32).toInt32) &&& (3 : Int32)))] B_ := fun t_ hh => k7 t_ (by
    refine XS.icmpYes X0.here hx rfl (pc0 := 52) (pc' := 70) rfl (hb hby own_h61) rfl (own_icT_ne c52) (by decide) (by decide) ?_
    refine XS.iloadN X0.here hx rfl (hb hby own_h72) rfl ?_
    refine XS.iconst X0.here hx rfl (hb hby own_h73) ?_
    exact hh)
   by_cases c72 : (((xv.toUInt32 >>> ((24 : Int32) &&& 31).toUInt32).toInt32) &&& (3 : Int32)) = (2 : Int32)
   ·
    have k16 : own_J p e below s₁ m 75 #[.val (.int xv), .val (.int (((xv.toUInt32 >>> ((24 : Int32) &&& 31).toUInt32).toInt32) &&& (3 : Int32))), .val (.int ((xv &&& (255 : Int32)).toUInt32.toUInt16.toUInt32.toInt32)), .val (.int ((((xv.toUInt32 >>> ((8 : Int32) &&& 31).toUInt32).toInt32) &&& (255 : Int32)).toUInt32.toUInt16.toUInt32.toInt32)), .val (.int ((((xv.toUInt32 >>> ((16 : Int32) &&& 31).toUInt32).toInt32) &&& (255 : Int32)).toUInt32.toUInt16.toUInt32.toInt32))] [] B_ := fun t_ hh => k15 t_ (by
     refine XS.icmpNo X0.here hx rfl (hb hby own_h74) rfl (own_icF_ne c72) ?_
     exact hh)
    obtain ⟨T208, h209, X210, e211, E212, A213, D214, U216, st215⟩ := newO X0 hx hZ hown (wT hw 5 rfl) (wT hw 6 rfl) (wT hw 7 rfl) e0 (g := (mkF m 75 #[.val (.int xv), .val (.int (((xv.toUInt32 >>> ((24 : Int32) &&& 31).toUInt32).toInt32) &&& (3 : Int32))), .val (.int ((xv &&& (255 : Int32)).toUInt32.toUInt16.toUInt32.toInt32)), .val (.int ((((xv.toUInt32 >>> ((8 : Int32) &&& 31).toUInt32).toInt32) &&& (255 : Int32)).toUInt32.toUInt16.toUInt32.toInt32)), .val (.int ((((xv.toUInt32 >>> ((16 : Int32) &&& 31).toUInt32).toInt32) &&& (255 : Int32)).toUInt32.toUInt16.toUInt32.toInt32))] [])) rfl (hb hby own_h75) (by decide) (by decide)
    obtain ⟨a217, g218⟩ : ∃ z, z = h0.size := ⟨_, rfl⟩
    rw [← g218] at A213 D214 U216 st215
    have H0219 : h0.size ≤ a217 := Nat.le_trans K0.1 (Nat.le_of_eq g218.symm)
    have G220 : n0 ≤ a217 := Nat.le_trans Z0 (Nat.le_of_eq g218.symm)
    have hk221 := Nat.le_trans hk0 E212.1
    have Sf222 := Safe.ext E212 Cr0.1 (Safe.new (x := a217) (Nat.le_of_eq g218.symm))
    have Z223 : n0 ≤ h209.size := Nat.le_trans Z0 E212.1
    have O224 := f0_.ext E212
    have P225 : Keep h0 h209 [] := K0.ext E212
    have Cr226 := Cr0.trans (CHr.ext E212 Cr0.1)
    have F227 : Fld Z h209 a217 "java/lang/String" "value" "[B" .null := D214 (Or.inr (wT hw 21 rfl)) (ty := .array .byte) (by decide)
    have F228 : Fld Z h209 a217 "java/lang/String" "coder" "B" (.int (0 : Int32)) := D214 (Or.inr (wT hw 22 rfl)) (ty := .byte) (by decide)
    have k17 : own_J p e below T208 m 78 #[.val (.int xv), .val (.int (((xv.toUInt32 >>> ((24 : Int32) &&& 31).toUInt32).toInt32) &&& (3 : Int32))), .val (.int ((xv &&& (255 : Int32)).toUInt32.toUInt16.toUInt32.toInt32)), .val (.int ((((xv.toUInt32 >>> ((8 : Int32) &&& 31).toUInt32).toInt32) &&& (255 : Int32)).toUInt32.toUInt16.toUInt32.toInt32)), .val (.int ((((xv.toUInt32 >>> ((16 : Int32) &&& 31).toUInt32).toInt32) &&& (255 : Int32)).toUInt32.toUInt16.toUInt32.toInt32))] [(.ref a217)] B_ := fun t_ hh => k16 t_ (st215 t_ hh)
    have k18 : own_J p e below T208 m 80 #[.val (.int xv), .val (.int (((xv.toUInt32 >>> ((24 : Int32) &&& 31).toUInt32).toInt32) &&& (3 : Int32))), .val (.int ((xv &&& (255 : Int32)).toUInt32.toUInt16.toUInt32.toInt32)), .val (.int ((((xv.toUInt32 >>> ((8 : Int32) &&& 31).toUInt32).toInt32) &&& (255 : Int32)).toUInt32.toUInt16.toUInt32.toInt32)), .val (.int ((((xv.toUInt32 >>> ((16 : Int32) &&& 31).toUInt32).toInt32) &&& (255 : Int32)).toUInt32.toUInt16.toUInt32.toInt32))] [(.int (2 : Int32)), (.ref a217), (.ref a217)] B_ := fun t_ hh => k17 t_ (by
     refine XS.dup X210.here hx rfl (hb hby own_h76) rfl rfl ?_
     refine XS.iconst X210.here hx rfl (hb hby own_h77) ?_
     exact hh)
    obtain ⟨T229, h230, kA231, X232, e233, E234, A235, st237⟩ := newP X210 hx hZ (wT hw 8 rfl) e211 (g := (mkF m 80 #[.val (.int xv), .val (.int (((xv.toUInt32 >>> ((24 : Int32) &&& 31).toUInt32).toInt32) &&& (3 : Int32))), .val (.int ((xv &&& (255 : Int32)).toUInt32.toUInt16.toUInt32.toInt32)), .val (.int ((((xv.toUInt32 >>> ((8 : Int32) &&& 31).toUInt32).toInt32) &&& (255 : Int32)).toUInt32.toUInt16.toUInt32.toInt32)), .val (.int ((((xv.toUInt32 >>> ((16 : Int32) &&& 31).toUInt32).toInt32) &&& (255 : Int32)).toUInt32.toUInt16.toUInt32.toInt32))] [(.int (2 : Int32)), (.ref a217), (.ref a217)])) rfl (hb hby own_h78) rfl (by decide) (cap := 2) (by decide) (by decide) (by decide) (by decide)
    obtain ⟨a238, g239⟩ : ∃ z, z = h209.size := ⟨_, rfl⟩
    rw [← g239] at A235 st237
    have H0240 : h0.size ≤ a238 := Nat.le_trans P225.1 (Nat.le_of_eq g239.symm)
    have G241 : n0 ≤ a238 := Nat.le_trans Z223 (Nat.le_of_eq g239.symm)
    have hk242 := Nat.le_trans hk221 E234.1
    have Sf243 := Safe.ext E234 Cr226.1 (Safe.new (x := a238) (Nat.le_of_eq g239.symm))
    have F244 := Exa.ext (h' := h230) E234 A213
    have F245 := Fld.ext (h' := h230) E234 F227
    have F246 := Fld.ext (h' := h230) E234 F228
    have Z247 : n0 ≤ h230.size := Nat.le_trans Z223 E234.1
    have O248 := O224.ext E234
    have P249 : Keep h0 h230 [] := P225.ext E234
    have Sf250 := Safe.ext E234 Cr226.1 Sf222
    have Cr251 := Cr226.trans (CHr.ext E234 Cr226.1)
    have V252 : Arv Z h230 a238 kA231 .char (2 : Int32) [(.int (0 : Int32)), (.int (0 : Int32))] (.int (0 : Int32)) := Arv.pad (Arv.new A235 (by decide)) (pad_rep [] (.int (0 : Int32)) 2)
    have k19 : own_J p e below T229 m 82 #[.val (.int xv), .val (.int (((xv.toUInt32 >>> ((24 : Int32) &&& 31).toUInt32).toInt32) &&& (3 : Int32))), .val (.int ((xv &&& (255 : Int32)).toUInt32.toUInt16.toUInt32.toInt32)), .val (.int ((((xv.toUInt32 >>> ((8 : Int32) &&& 31).toUInt32).toInt32) &&& (255 : Int32)).toUInt32.toUInt16.toUInt32.toInt32)), .val (.int ((((xv.toUInt32 >>> ((16 : Int32) &&& 31).toUInt32).toInt32) &&& (255 : Int32)).toUInt32.toUInt16.toUInt32.toInt32))] [(.ref a238), (.ref a217), (.ref a217)] B_ := fun t_ hh => k18 t_ (st237 t_ hh)
    have k20 : own_J p e below T229 m 85 #[.val (.int xv), .val (.int (((xv.toUInt32 >>> ((24 : Int32) &&& 31).toUInt32).toInt32) &&& (3 : Int32))), .val (.int ((xv &&& (255 : Int32)).toUInt32.toUInt16.toUInt32.toInt32)), .val (.int ((((xv.toUInt32 >>> ((8 : Int32) &&& 31).toUInt32).toInt32) &&& (255 : Int32)).toUInt32.toUInt16.toUInt32.toInt32)), .val (.int ((((xv.toUInt32 >>> ((16 : Int32) &&& 31).toUInt32).toInt32) &&& (255 : Int32)).toUInt32.toUInt16.toUInt32.toInt32))] [(.int ((xv &&& (255 : Int32)).toUInt32.toUInt16.toUInt32.toInt32)), (.int (0 : Int32)), (.ref a238), (.ref a238), (.ref a217), (.ref a217)] B_ := fun t_ hh => k19 t_ (by
     refine XS.dup X232.here hx rfl (hb hby own_h79) rfl rfl ?_
     refine XS.iconst X232.here hx rfl (hb hby own_h80) ?_
     refine XS.iloadN X232.here hx rfl (hb hby own_h81) rfl ?_
     exact hh)
    obtain ⟨cl253, Ar254, q255, S256, Ng257, H258, Gf259⟩ := id V252
    have hin260 := inb_of (j := (0 : Int32)) S256 (by decide)
    obtain ⟨T261, h262, X263, e264, W265, st266⟩ := stC X232 hx hZ e233 Ar254 (j := (0 : Int32)) hin260 (g := (mkF m 85 #[.val (.int xv), .val (.int (((xv.toUInt32 >>> ((24 : Int32) &&& 31).toUInt32).toInt32) &&& (3 : Int32))), .val (.int ((xv &&& (255 : Int32)).toUInt32.toUInt16.toUInt32.toInt32)), .val (.int ((((xv.toUInt32 >>> ((8 : Int32) &&& 31).toUInt32).toInt32) &&& (255 : Int32)).toUInt32.toUInt16.toUInt32.toInt32)), .val (.int ((((xv.toUInt32 >>> ((16 : Int32) &&& 31).toUInt32).toInt32) &&& (255 : Int32)).toUInt32.toUInt16.toUInt32.toInt32))] [(.int ((xv &&& (255 : Int32)).toUInt32.toUInt16.toUInt32.toInt32)), (.int (0 : Int32)), (.ref a238), (.ref a238), (.ref a217), (.ref a217)])) rfl rfl (hb hby own_h82)
    have N267 := Fr.snoc X263 N0 G241
    have hk268 := Nat.le_trans hk242 (show h230.size ≤ h262.size from Nat.le_of_eq W265.size.symm)
    have F270 := Exa.wr W265 F244
    have ne272 : a217 ≠ a238 := by rw [g239]; exact Nat.ne_of_lt A213.lt
    have F271 := Fld.other W265 F245 (Or.inl ne272)
    have F273 := Fld.other W265 F246 (Or.inl ne272)
    have Z274 : n0 ≤ h262.size := W265.size ▸ Z247
    have O275 := O248.wr W265 G241
    have P276 : Keep h0 h262 [] := P249.wr W265 (Or.inr H0240)
    have Sf277 := Safe.wr W265 Sf243 Cr251.1 Sf250
    have Sf278 := Safe.wr W265 Sf243 Cr251.1 Sf243
    have Cr279 := Cr251.trans (CHr.wr W265 Sf243 Cr251.1)
    have V280 : Arv Z h262 a238 kA231 .char (2 : Int32) [(.int (nar .char ((xv &&& (255 : Int32)).toUInt32.toUInt16.toUInt32.toInt32))), (.int (0 : Int32))] (.int (0 : Int32)) := Arv.set Ar254 q255 S256 Ng257 H258 Gf259 (fits_nar_char _) W265 0 rfl (own_lt rfl)
    have k21 : own_J p e below T261 m 86 #[.val (.int xv), .val (.int (((xv.toUInt32 >>> ((24 : Int32) &&& 31).toUInt32).toInt32) &&& (3 : Int32))), .val (.int ((xv &&& (255 : Int32)).toUInt32.toUInt16.toUInt32.toInt32)), .val (.int ((((xv.toUInt32 >>> ((8 : Int32) &&& 31).toUInt32).toInt32) &&& (255 : Int32)).toUInt32.toUInt16.toUInt32.toInt32)), .val (.int ((((xv.toUInt32 >>> ((16 : Int32) &&& 31).toUInt32).toInt32) &&& (255 : Int32)).toUInt32.toUInt16.toUInt32.toInt32))] [(.ref a238), (.ref a217), (.ref a217)] B_ := fun t_ hh => k20 t_ (st266 t_ hh)
    have k22 : own_J p e below T261 m 89 #[.val (.int xv), .val (.int (((xv.toUInt32 >>> ((24 : Int32) &&& 31).toUInt32).toInt32) &&& (3 : Int32))), .val (.int ((xv &&& (255 : Int32)).toUInt32.toUInt16.toUInt32.toInt32)), .val (.int ((((xv.toUInt32 >>> ((8 : Int32) &&& 31).toUInt32).toInt32) &&& (255 : Int32)).toUInt32.toUInt16.toUInt32.toInt32)), .val (.int ((((xv.toUInt32 >>> ((16 : Int32) &&& 31).toUInt32).toInt32) &&& (255 : Int32)).toUInt32.toUInt16.toUInt32.toInt32))] [(.int ((((xv.toUInt32 >>> ((8 : Int32) &&& 31).toUInt32).toInt32) &&& (255 : Int32)).toUInt32.toUInt16.toUInt32.toInt32)), (.int (1 : Int32)), (.ref a238), (.ref a238), (.ref a217), (.ref a217)] B_ := fun t_ hh => k21 t_ (by
     refine XS.dup X263.here hx rfl (hb hby own_h83) rfl rfl ?_
     refine XS.iconst X263.here hx rfl (hb hby own_h84) ?_
     refine XS.iloadN X263.here hx rfl (hb hby own_h85) rfl ?_
     exact hh)
    obtain ⟨cl281, Ar282, q283, S284, Ng285, H286, Gf287⟩ := id V280
    have hin288 := inb_of (j := (1 : Int32)) S284 (by decide)
    obtain ⟨T289, h290, X291, e292, W293, st294⟩ := stC X263 hx hZ e264 Ar282 (j := (1 : Int32)) hin288 (g := (mkF m 89 #[.val (.int xv), .val (.int (((xv.toUInt32 >>> ((24 : Int32) &&& 31).toUInt32).toInt32) &&& (3 : Int32))), .val (.int ((xv &&& (255 : Int32)).toUInt32.toUInt16.toUInt32.toInt32)), .val (.int ((((xv.toUInt32 >>> ((8 : Int32) &&& 31).toUInt32).toInt32) &&& (255 : Int32)).toUInt32.toUInt16.toUInt32.toInt32)), .val (.int ((((xv.toUInt32 >>> ((16 : Int32) &&& 31).toUInt32).toInt32) &&& (255 : Int32)).toUInt32.toUInt16.toUInt32.toInt32))] [(.int ((((xv.toUInt32 >>> ((8 : Int32) &&& 31).toUInt32).toInt32) &&& (255 : Int32)).toUInt32.toUInt16.toUInt32.toInt32)), (.int (1 : Int32)), (.ref a238), (.ref a238), (.ref a217), (.ref a217)])) rfl rfl (hb hby own_h86)
    have N295 := Fr.snoc X291 N267 G241
    have hk296 := Nat.le_trans hk268 (show h262.size ≤ h290.size from Nat.le_of_eq W293.size.symm)
    have F298 := Exa.wr W293 F270
    have F299 := Fld.other W293 F271 (Or.inl ne272)
    have F300 := Fld.other W293 F273 (Or.inl ne272)
    have Z301 : n0 ≤ h290.size := W293.size ▸ Z274
    have O302 := O275.wr W293 G241
    have P303 : Keep h0 h290 [] := P276.wr W293 (Or.inr H0240)
    have Sf304 := Safe.wr W293 Sf278 Cr279.1 Sf277
    have Sf305 := Safe.wr W293 Sf278 Cr279.1 Sf278
    have Cr306 := Cr279.trans (CHr.wr W293 Sf278 Cr279.1)
    have V307 : Arv Z h290 a238 kA231 .char (2 : Int32) [(.int (nar .char ((xv &&& (255 : Int32)).toUInt32.toUInt16.toUInt32.toInt32))), (.int (nar .char ((((xv.toUInt32 >>> ((8 : Int32) &&& 31).toUInt32).toInt32) &&& (255 : Int32)).toUInt32.toUInt16.toUInt32.toInt32)))] (.int (0 : Int32)) := Arv.set Ar282 q283 S284 Ng285 H286 Gf287 (fits_nar_char _) W293 1 rfl (own_lt rfl)
    have k23 : own_J p e below T289 m 90 #[.val (.int xv), .val (.int (((xv.toUInt32 >>> ((24 : Int32) &&& 31).toUInt32).toInt32) &&& (3 : Int32))), .val (.int ((xv &&& (255 : Int32)).toUInt32.toUInt16.toUInt32.toInt32)), .val (.int ((((xv.toUInt32 >>> ((8 : Int32) &&& 31).toUInt32).toInt32) &&& (255 : Int32)).toUInt32.toUInt16.toUInt32.toInt32)), .val (.int ((((xv.toUInt32 >>> ((16 : Int32) &&& 31).toUInt32).toInt32) &&& (255 : Int32)).toUInt32.toUInt16.toUInt32.toInt32))] [(.ref a238), (.ref a217), (.ref a217)] B_ := fun t_ hh => k22 t_ (st294 t_ hh)
    have hp308 : ∀ c ∈ ([(nar .char ((xv &&& (255 : Int32)).toUInt32.toUInt16.toUInt32.toInt32)), (nar .char ((((xv.toUInt32 >>> ((8 : Int32) &&& 31).toUInt32).toInt32) &&& (255 : Int32)).toUInt32.toUInt16.toUInt32.toInt32))] : List Int32), own_b8 c := (List.forall_mem_cons.mpr ⟨(own_b8_nar (own_b8_mask _)), (List.forall_mem_cons.mpr ⟨(own_b8_nar (own_b8_mask _)), (fun _ q => nomatch q)⟩)⟩)
    have F309 : Arv Z h290 a238 kA231 .char (Int32.ofNat 2) (([(nar .char ((xv &&& (255 : Int32)).toUInt32.toUInt16.toUInt32.toInt32)), (nar .char ((((xv.toUInt32 >>> ((8 : Int32) &&& 31).toUInt32).toInt32) &&& (255 : Int32)).toUInt32.toUInt16.toUInt32.toInt32))] : List Int32).map Value.int) (.int 0) := V307
    obtain ⟨_, _, ⟨T310, L311, k_312, n_313⟩, -, X314, ⟨Lc315, hQ316, l_317, y_318, z_319⟩, st320⟩ := X291.specialBack hx (y := (⟨"java/lang/String", "<init>", "([C)V"⟩ : MethodName)) rfl hown (mvT hZ (wT hw 9 rfl)) (mvT hZ (wT hw 10 rfl)) (mvT hZ (wT hw 11 rfl)) (by decide) (StrChars.Road.backV (W := 1) hZ (fun d hd => hw d (own_sub_words d hd)) (kI := 4) (wT hw 6 rfl) (cs := ([(nar .char ((xv &&& (255 : Int32)).toUInt32.toUInt16.toUInt32.toInt32)), (nar .char ((((xv.toUInt32 >>> ((8 : Int32) &&& 31).toUInt32).toInt32) &&& (255 : Int32)).toUInt32.toUInt16.toUInt32.toInt32))] : List Int32)) (n0 := n0) G220 Z301 F298 F299 F300 F309 (Sta.ext O302.2 sC) hc rfl rfl (own_lt rfl) (own_l rfl) (fun c hc => (hp308 c hc)) rfl (by decide) (by decide)) (g := (mkF m 90 #[.val (.int xv), .val (.int (((xv.toUInt32 >>> ((24 : Int32) &&& 31).toUInt32).toInt32) &&& (3 : Int32))), .val (.int ((xv &&& (255 : Int32)).toUInt32.toUInt16.toUInt32.toInt32)), .val (.int ((((xv.toUInt32 >>> ((8 : Int32) &&& 31).toUInt32).toInt32) &&& (255 : Int32)).toUInt32.toUInt16.toUInt32.toInt32)), .val (.int ((((xv.toUInt32 >>> ((16 : Int32) &&& 31).toUInt32).toInt32) &&& (255 : Int32)).toUInt32.toUInt16.toUInt32.toInt32))] [(.ref a238), (.ref a217), (.ref a217)])) rfl (by rw [hml]; rfl) (Steps.refl _) (a := a217) (argsL := [(.ref a238)]) (rest := [(.ref a217)]) (lenOf own_h57 rfl) rfl (by show 2 * 0 + _ ≤ _; exact Nat.le_of_eq rfl) (hb hby own_h87) (fun _ _ => ⟨rfl, e292, own_l rfl, own_l rfl⟩)
    dsimp only [Pt.U, Pt.locs, Pt.cells, Pt.slots] at X314 l_317 y_318 z_319 st320 hQ316
    subst l_317 y_318 z_319
    obtain ⟨rfl, N321, K322, E323, F324, t325, kb326, G327, G328, G329, F330, F331⟩ := hQ316
    have N332 := Fr.app N295 N321
    have F333 := F298.keep K322
    have F334 := F309.keep K322 (ninS (Ne.symm ne272) nin0)
    have Z335 : n0 ≤ T310.heap.size := Nat.le_trans Z301 K322.1
    have hk336 := Nat.le_trans hk296 K322.1
    have Sf337 := Safe.keep K322 (allS Sf304 all0) Cr306.1 Sf304
    have Sf338 := Safe.keep K322 (allS Sf304 all0) Cr306.1 Sf305
    have Cr339 := Cr306.trans (CHr.keep K322 (allS Sf304 all0) Cr306.1)
    have O340 := O302.keep K322 (allS G220 all0)
    have P341 : Keep h0 T310.heap [] := P303.trans K322 (allS (P := fun x => x ∈ [] ∨ h0.size ≤ x) (Or.inr H0219) all0)
    have S342 : own_Str Z T310.heap a217 t325 kb326 ([(nar .char ((xv &&& (255 : Int32)).toUInt32.toUInt16.toUInt32.toInt32)), (nar .char ((((xv.toUInt32 >>> ((8 : Int32) &&& 31).toUInt32).toInt32) &&& (255 : Int32)).toUInt32.toUInt16.toUInt32.toInt32))] : List Int32) := ⟨E323, F330, F324, F331⟩
    have e343 : T310.heap = T310.heap := rfl
    have k24 : own_J p e below T310 m 93 #[.val (.int xv), .val (.int (((xv.toUInt32 >>> ((24 : Int32) &&& 31).toUInt32).toInt32) &&& (3 : Int32))), .val (.int ((xv &&& (255 : Int32)).toUInt32.toUInt16.toUInt32.toInt32)), .val (.int ((((xv.toUInt32 >>> ((8 : Int32) &&& 31).toUInt32).toInt32) &&& (255 : Int32)).toUInt32.toUInt16.toUInt32.toInt32)), .val (.int ((((xv.toUInt32 >>> ((16 : Int32) &&& 31).toUInt32).toInt32) &&& (255 : Int32)).toUInt32.toUInt16.toUInt32.toInt32))] [(.ref a217)] B_ := fun t_ hh => k23 t_ (st320.trans hh)
    obtain ⟨fs, hr, hrun, hended, hEnd⟩ := X314.leaveW hS0 (by rw [e343]; exact hk336) (v := some (.ref a217)) (fun h => by rw [Bd.returns] at h; cases h)
    refine ⟨_, _, (own_from hB_ (k24 _ (retOut X314 hx (t := .object "java/lang/String") Bd.returns rfl (Or.inr (Or.inr (Or.inr (Or.inr ⟨rfl, rfl, rfl⟩)))) (hb hby own_h88) hr))), hrun, hended, _, _, rfl, ?_, ?_, hEnd.1, hEnd.2.1, hEnd.2.2.1, hEnd.2.2.2.mono (own_l rfl) (own_l rfl)⟩
    rotate_left
    · show CHr Z own_EL s.vm s.heap T310.vm T310.heap
      rw [hh, e343]
      exact Cr339.trans (CHv.at X314 hZ (own_EW hw) Cr339.1)
    show Q_rmStr Z xv h0 n0 _ T310.heap _
    rw [e343]
    exact ⟨a217, rfl, N332, P341, E323, G220, H0219, trivial⟩
   ·
    have k25 : own_J p e below s₁ m 94 #[.val (.int xv), .val (.int (((xv.toUInt32 >>> ((24 : Int32) &&& 31).toUInt32).toInt32) &&& (3 : Int32))), .val (.int ((xv &&& (255 : Int32)).toUInt32.toUInt16.toUInt32.toInt32)), .val (.int ((((xv.toUInt32 >>> ((8 : Int32) &&& 31).toUInt32).toInt32) &&& (255 : Int32)).toUInt32.toUInt16.toUInt32.toInt32)), .val (.int ((((xv.toUInt32 >>> ((16 : Int32) &&& 31).toUInt32).toInt32) &&& (255 : Int32)).toUInt32.toUInt16.toUInt32.toInt32))] [] B_ := fun t_ hh => k15 t_ (by
     refine XS.icmpYes X0.here hx rfl (pc0 := 72) (pc' := 94) rfl (hb hby own_h74) rfl (own_icT_ne c72) (by decide) (by decide) ?_
     exact hh)
    obtain ⟨T344, h345, X346, e347, E348, A349, D350, U352, st351⟩ := newO X0 hx hZ hown (wT hw 5 rfl) (wT hw 6 rfl) (wT hw 7 rfl) e0 (g := (mkF m 94 #[.val (.int xv), .val (.int (((xv.toUInt32 >>> ((24 : Int32) &&& 31).toUInt32).toInt32) &&& (3 : Int32))), .val (.int ((xv &&& (255 : Int32)).toUInt32.toUInt16.toUInt32.toInt32)), .val (.int ((((xv.toUInt32 >>> ((8 : Int32) &&& 31).toUInt32).toInt32) &&& (255 : Int32)).toUInt32.toUInt16.toUInt32.toInt32)), .val (.int ((((xv.toUInt32 >>> ((16 : Int32) &&& 31).toUInt32).toInt32) &&& (255 : Int32)).toUInt32.toUInt16.toUInt32.toInt32))] [])) rfl (hb hby own_h89) (by decide) (by decide)
    obtain ⟨a353, g354⟩ : ∃ z, z = h0.size := ⟨_, rfl⟩
    rw [← g354] at A349 D350 U352 st351
    have H0355 : h0.size ≤ a353 := Nat.le_trans K0.1 (Nat.le_of_eq g354.symm)
    have G356 : n0 ≤ a353 := Nat.le_trans Z0 (Nat.le_of_eq g354.symm)
    have hk357 := Nat.le_trans hk0 E348.1
    have Sf358 := Safe.ext E348 Cr0.1 (Safe.new (x := a353) (Nat.le_of_eq g354.symm))
    have Z359 : n0 ≤ h345.size := Nat.le_trans Z0 E348.1
    have O360 := f0_.ext E348
    have P361 : Keep h0 h345 [] := K0.ext E348
    have Cr362 := Cr0.trans (CHr.ext E348 Cr0.1)
    have F363 : Fld Z h345 a353 "java/lang/String" "value" "[B" .null := D350 (Or.inr (wT hw 21 rfl)) (ty := .array .byte) (by decide)
    have F364 : Fld Z h345 a353 "java/lang/String" "coder" "B" (.int (0 : Int32)) := D350 (Or.inr (wT hw 22 rfl)) (ty := .byte) (by decide)
    have k26 : own_J p e below T344 m 97 #[.val (.int xv), .val (.int (((xv.toUInt32 >>> ((24 : Int32) &&& 31).toUInt32).toInt32) &&& (3 : Int32))), .val (.int ((xv &&& (255 : Int32)).toUInt32.toUInt16.toUInt32.toInt32)), .val (.int ((((xv.toUInt32 >>> ((8 : Int32) &&& 31).toUInt32).toInt32) &&& (255 : Int32)).toUInt32.toUInt16.toUInt32.toInt32)), .val (.int ((((xv.toUInt32 >>> ((16 : Int32) &&& 31).toUInt32).toInt32) &&& (255 : Int32)).toUInt32.toUInt16.toUInt32.toInt32))] [(.ref a353)] B_ := fun t_ hh => k25 t_ (st351 t_ hh)
    have k27 : own_J p e below T344 m 99 #[.val (.int xv), .val (.int (((xv.toUInt32 >>> ((24 : Int32) &&& 31).toUInt32).toInt32) &&& (3 : Int32))), .val (.int ((xv &&& (255 : Int32)).toUInt32.toUInt16.toUInt32.toInt32)), .val (.int ((((xv.toUInt32 >>> ((8 : Int32) &&& 31).toUInt32).toInt32) &&& (255 : Int32)).toUInt32.toUInt16.toUInt32.toInt32)), .val (.int ((((xv.toUInt32 >>> ((16 : Int32) &&& 31).toUInt32).toInt32) &&& (255 : Int32)).toUInt32.toUInt16.toUInt32.toInt32))] [(.int (3 : Int32)), (.ref a353), (.ref a353)] B_ := fun t_ hh => k26 t_ (by
     refine XS.dup X346.here hx rfl (hb hby own_h90) rfl rfl ?_
     refine XS.iconst X346.here hx rfl (hb hby own_h91) ?_
     exact hh)
    obtain ⟨T365, h366, kA367, X368, e369, E370, A371, st373⟩ := newP X346 hx hZ (wT hw 8 rfl) e347 (g := (mkF m 99 #[.val (.int xv), .val (.int (((xv.toUInt32 >>> ((24 : Int32) &&& 31).toUInt32).toInt32) &&& (3 : Int32))), .val (.int ((xv &&& (255 : Int32)).toUInt32.toUInt16.toUInt32.toInt32)), .val (.int ((((xv.toUInt32 >>> ((8 : Int32) &&& 31).toUInt32).toInt32) &&& (255 : Int32)).toUInt32.toUInt16.toUInt32.toInt32)), .val (.int ((((xv.toUInt32 >>> ((16 : Int32) &&& 31).toUInt32).toInt32) &&& (255 : Int32)).toUInt32.toUInt16.toUInt32.toInt32))] [(.int (3 : Int32)), (.ref a353), (.ref a353)])) rfl (hb hby own_h92) rfl (by decide) (cap := 3) (by decide) (by decide) (by decide) (by decide)
    obtain ⟨a374, g375⟩ : ∃ z, z = h345.size := ⟨_, rfl⟩
    rw [← g375] at A371 st373
    have H0376 : h0.size ≤ a374 := Nat.le_trans P361.1 (Nat.le_of_eq g375.symm)
    have G377 : n0 ≤ a374 := Nat.le_trans Z359 (Nat.le_of_eq g375.symm)
    have hk378 := Nat.le_trans hk357 E370.1
    have Sf379 := Safe.ext E370 Cr362.1 (Safe.new (x := a374) (Nat.le_of_eq g375.symm))
    have F380 := Exa.ext (h' := h366) E370 A349
    have F381 := Fld.ext (h' := h366) E370 F363
    have F382 := Fld.ext (h' := h366) E370 F364
    have Z383 : n0 ≤ h366.size := Nat.le_trans Z359 E370.1
    have O384 := O360.ext E370
    have P385 : Keep h0 h366 [] := P361.ext E370
    have Sf386 := Safe.ext E370 Cr362.1 Sf358
    have Cr387 := Cr362.trans (CHr.ext E370 Cr362.1)
    have V388 : Arv Z h366 a374 kA367 .char (3 : Int32) [(.int (0 : Int32)), (.int (0 : Int32)), (.int (0 : Int32))] (.int (0 : Int32)) := Arv.pad (Arv.new A371 (by decide)) (pad_rep [] (.int (0 : Int32)) 3)
    have k28 : own_J p e below T365 m 101 #[.val (.int xv), .val (.int (((xv.toUInt32 >>> ((24 : Int32) &&& 31).toUInt32).toInt32) &&& (3 : Int32))), .val (.int ((xv &&& (255 : Int32)).toUInt32.toUInt16.toUInt32.toInt32)), .val (.int ((((xv.toUInt32 >>> ((8 : Int32) &&& 31).toUInt32).toInt32) &&& (255 : Int32)).toUInt32.toUInt16.toUInt32.toInt32)), .val (.int ((((xv.toUInt32 >>> ((16 : Int32) &&& 31).toUInt32).toInt32) &&& (255 : Int32)).toUInt32.toUInt16.toUInt32.toInt32))] [(.ref a374), (.ref a353), (.ref a353)] B_ := fun t_ hh => k27 t_ (st373 t_ hh)
    have k29 : own_J p e below T365 m 104 #[.val (.int xv), .val (.int (((xv.toUInt32 >>> ((24 : Int32) &&& 31).toUInt32).toInt32) &&& (3 : Int32))), .val (.int ((xv &&& (255 : Int32)).toUInt32.toUInt16.toUInt32.toInt32)), .val (.int ((((xv.toUInt32 >>> ((8 : Int32) &&& 31).toUInt32).toInt32) &&& (255 : Int32)).toUInt32.toUInt16.toUInt32.toInt32)), .val (.int ((((xv.toUInt32 >>> ((16 : Int32) &&& 31).toUInt32).toInt32) &&& (255 : Int32)).toUInt32.toUInt16.toUInt32.toInt32))] [(.int ((xv &&& (255 : Int32)).toUInt32.toUInt16.toUInt32.toInt32)), (.int (0 : Int32)), (.ref a374), (.ref a374), (.ref a353), (.ref a353)] B_ := fun t_ hh => k28 t_ (by
     refine XS.dup X368.here hx rfl (hb hby own_h93) rfl rfl ?_
     refine XS.iconst X368.here hx rfl (hb hby own_h94) ?_
     refine XS.iloadN X368.here hx rfl (hb hby own_h95) rfl ?_
     exact hh)
    obtain ⟨cl389, Ar390, q391, S392, Ng393, H394, Gf395⟩ := id V388
    have hin396 := inb_of (j := (0 : Int32)) S392 (by decide)
    obtain ⟨T397, h398, X399, e400, W401, st402⟩ := stC X368 hx hZ e369 Ar390 (j := (0 : Int32)) hin396 (g := (mkF m 104 #[.val (.int xv), .val (.int (((xv.toUInt32 >>> ((24 : Int32) &&& 31).toUInt32).toInt32) &&& (3 : Int32))), .val (.int ((xv &&& (255 : Int32)).toUInt32.toUInt16.toUInt32.toInt32)), .val (.int ((((xv.toUInt32 >>> ((8 : Int32) &&& 31).toUInt32).toInt32) &&& (255 : Int32)).toUInt32.toUInt16.toUInt32.toInt32)), .val (.int ((((xv.toUInt32 >>> ((16 : Int32) &&& 31).toUInt32).toInt32) &&& (255 : Int32)).toUInt32.toUInt16.toUInt32.toInt32))] [(.int ((xv &&& (255 : Int32)).toUInt32.toUInt16.toUInt32.toInt32)), (.int (0 : Int32)), (.ref a374), (.ref a374), (.ref a353), (.ref a353)])) rfl rfl (hb hby own_h96)
    have N403 := Fr.snoc X399 N0 G377
    have hk404 := Nat.le_trans hk378 (show h366.size ≤ h398.size from Nat.le_of_eq W401.size.symm)
    have F406 := Exa.wr W401 F380
    have ne408 : a353 ≠ a374 := by rw [g375]; exact Nat.ne_of_lt A349.lt
    have F407 := Fld.other W401 F381 (Or.inl ne408)
    have F409 := Fld.other W401 F382 (Or.inl ne408)
    have Z410 : n0 ≤ h398.size := W401.size ▸ Z383
    have O411 := O384.wr W401 G377
    have P412 : Keep h0 h398 [] := P385.wr W401 (Or.inr H0376)
    have Sf413 := Safe.wr W401 Sf379 Cr387.1 Sf386
    have Sf414 := Safe.wr W401 Sf379 Cr387.1 Sf379
    have Cr415 := Cr387.trans (CHr.wr W401 Sf379 Cr387.1)
    have V416 : Arv Z h398 a374 kA367 .char (3 : Int32) [(.int (nar .char ((xv &&& (255 : Int32)).toUInt32.toUInt16.toUInt32.toInt32))), (.int (0 : Int32)), (.int (0 : Int32))] (.int (0 : Int32)) := Arv.set Ar390 q391 S392 Ng393 H394 Gf395 (fits_nar_char _) W401 0 rfl (own_lt rfl)
    have k30 : own_J p e below T397 m 105 #[.val (.int xv), .val (.int (((xv.toUInt32 >>> ((24 : Int32) &&& 31).toUInt32).toInt32) &&& (3 : Int32))), .val (.int ((xv &&& (255 : Int32)).toUInt32.toUInt16.toUInt32.toInt32)), .val (.int ((((xv.toUInt32 >>> ((8 : Int32) &&& 31).toUInt32).toInt32) &&& (255 : Int32)).toUInt32.toUInt16.toUInt32.toInt32)), .val (.int ((((xv.toUInt32 >>> ((16 : Int32) &&& 31).toUInt32).toInt32) &&& (255 : Int32)).toUInt32.toUInt16.toUInt32.toInt32))] [(.ref a374), (.ref a353), (.ref a353)] B_ := fun t_ hh => k29 t_ (st402 t_ hh)
    have k31 : own_J p e below T397 m 108 #[.val (.int xv), .val (.int (((xv.toUInt32 >>> ((24 : Int32) &&& 31).toUInt32).toInt32) &&& (3 : Int32))), .val (.int ((xv &&& (255 : Int32)).toUInt32.toUInt16.toUInt32.toInt32)), .val (.int ((((xv.toUInt32 >>> ((8 : Int32) &&& 31).toUInt32).toInt32) &&& (255 : Int32)).toUInt32.toUInt16.toUInt32.toInt32)), .val (.int ((((xv.toUInt32 >>> ((16 : Int32) &&& 31).toUInt32).toInt32) &&& (255 : Int32)).toUInt32.toUInt16.toUInt32.toInt32))] [(.int ((((xv.toUInt32 >>> ((8 : Int32) &&& 31).toUInt32).toInt32) &&& (255 : Int32)).toUInt32.toUInt16.toUInt32.toInt32)), (.int (1 : Int32)), (.ref a374), (.ref a374), (.ref a353), (.ref a353)] B_ := fun t_ hh => k30 t_ (by
     refine XS.dup X399.here hx rfl (hb hby own_h97) rfl rfl ?_
     refine XS.iconst X399.here hx rfl (hb hby own_h98) ?_
     refine XS.iloadN X399.here hx rfl (hb hby own_h99) rfl ?_
     exact hh)
    obtain ⟨cl417, Ar418, q419, S420, Ng421, H422, Gf423⟩ := id V416
    have hin424 := inb_of (j := (1 : Int32)) S420 (by decide)
    obtain ⟨T425, h426, X427, e428, W429, st430⟩ := stC X399 hx hZ e400 Ar418 (j := (1 : Int32)) hin424 (g := (mkF m 108 #[.val (.int xv), .val (.int (((xv.toUInt32 >>> ((24 : Int32) &&& 31).toUInt32).toInt32) &&& (3 : Int32))), .val (.int ((xv &&& (255 : Int32)).toUInt32.toUInt16.toUInt32.toInt32)), .val (.int ((((xv.toUInt32 >>> ((8 : Int32) &&& 31).toUInt32).toInt32) &&& (255 : Int32)).toUInt32.toUInt16.toUInt32.toInt32)), .val (.int ((((xv.toUInt32 >>> ((16 : Int32) &&& 31).toUInt32).toInt32) &&& (255 : Int32)).toUInt32.toUInt16.toUInt32.toInt32))] [(.int ((((xv.toUInt32 >>> ((8 : Int32) &&& 31).toUInt32).toInt32) &&& (255 : Int32)).toUInt32.toUInt16.toUInt32.toInt32)), (.int (1 : Int32)), (.ref a374), (.ref a374), (.ref a353), (.ref a353)])) rfl rfl (hb hby own_h100)
    have N431 := Fr.snoc X427 N403 G377
    have hk432 := Nat.le_trans hk404 (show h398.size ≤ h426.size from Nat.le_of_eq W429.size.symm)
    have F434 := Exa.wr W429 F406
    have F435 := Fld.other W429 F407 (Or.inl ne408)
    have F436 := Fld.other W429 F409 (Or.inl ne408)
    have Z437 : n0 ≤ h426.size := W429.size ▸ Z410
    have O438 := O411.wr W429 G377
    have P439 : Keep h0 h426 [] := P412.wr W429 (Or.inr H0376)
    have Sf440 := Safe.wr W429 Sf414 Cr415.1 Sf413
    have Sf441 := Safe.wr W429 Sf414 Cr415.1 Sf414
    have Cr442 := Cr415.trans (CHr.wr W429 Sf414 Cr415.1)
    have V443 : Arv Z h426 a374 kA367 .char (3 : Int32) [(.int (nar .char ((xv &&& (255 : Int32)).toUInt32.toUInt16.toUInt32.toInt32))), (.int (nar .char ((((xv.toUInt32 >>> ((8 : Int32) &&& 31).toUInt32).toInt32) &&& (255 : Int32)).toUInt32.toUInt16.toUInt32.toInt32))), (.int (0 : Int32))] (.int (0 : Int32)) := Arv.set Ar418 q419 S420 Ng421 H422 Gf423 (fits_nar_char _) W429 1 rfl (own_lt rfl)
    have k32 : own_J p e below T425 m 109 #[.val (.int xv), .val (.int (((xv.toUInt32 >>> ((24 : Int32) &&& 31).toUInt32).toInt32) &&& (3 : Int32))), .val (.int ((xv &&& (255 : Int32)).toUInt32.toUInt16.toUInt32.toInt32)), .val (.int ((((xv.toUInt32 >>> ((8 : Int32) &&& 31).toUInt32).toInt32) &&& (255 : Int32)).toUInt32.toUInt16.toUInt32.toInt32)), .val (.int ((((xv.toUInt32 >>> ((16 : Int32) &&& 31).toUInt32).toInt32) &&& (255 : Int32)).toUInt32.toUInt16.toUInt32.toInt32))] [(.ref a374), (.ref a353), (.ref a353)] B_ := fun t_ hh => k31 t_ (st430 t_ hh)
    have k33 : own_J p e below T425 m 113 #[.val (.int xv), .val (.int (((xv.toUInt32 >>> ((24 : Int32) &&& 31).toUInt32).toInt32) &&& (3 : Int32))), .val (.int ((xv &&& (255 : Int32)).toUInt32.toUInt16.toUInt32.toInt32)), .val (.int ((((xv.toUInt32 >>> ((8 : Int32) &&& 31).toUInt32).toInt32) &&& (255 : Int32)).toUInt32.toUInt16.toUInt32.toInt32)), .val (.int ((((xv.toUInt32 >>> ((16 : Int32) &&& 31).toUInt32).toInt32) &&& (255 : Int32)).toUInt32.toUInt16.toUInt32.toInt32))] [(.int ((((xv.toUInt32 >>> ((16 : Int32) &&& 31).toUInt32).toInt32) &&& (255 : Int32)).toUInt32.toUInt16.toUInt32.toInt32)), (.int (2 : Int32)), (.ref a374), (.ref a374), (.ref a353), (.ref a353)] B_ := fun t_ hh => k32 t_ (by
     refine XS.dup X427.here hx rfl (hb hby own_h101) rfl rfl ?_
     refine XS.iconst X427.here hx rfl (hb hby own_h102) ?_
     refine XS.iload X427.here hx rfl (hb hby own_h103) rfl ?_
     exact hh)
    obtain ⟨cl444, Ar445, q446, S447, Ng448, H449, Gf450⟩ := id V443
    have hin451 := inb_of (j := (2 : Int32)) S447 (by decide)
    obtain ⟨T452, h453, X454, e455, W456, st457⟩ := stC X427 hx hZ e428 Ar445 (j := (2 : Int32)) hin451 (g := (mkF m 113 #[.val (.int xv), .val (.int (((xv.toUInt32 >>> ((24 : Int32) &&& 31).toUInt32).toInt32) &&& (3 : Int32))), .val (.int ((xv &&& (255 : Int32)).toUInt32.toUInt16.toUInt32.toInt32)), .val (.int ((((xv.toUInt32 >>> ((8 : Int32) &&& 31).toUInt32).toInt32) &&& (255 : Int32)).toUInt32.toUInt16.toUInt32.toInt32)), .val (.int ((((xv.toUInt32 >>> ((16 : Int32) &&& 31).toUInt32).toInt32) &&& (255 : Int32)).toUInt32.toUInt16.toUInt32.toInt32))] [(.int ((((xv.toUInt32 >>> ((16 : Int32) &&& 31).toUInt32).toInt32) &&& (255 : Int32)).toUInt32.toUInt16.toUInt32.toInt32)), (.int (2 : Int32)), (.ref a374), (.ref a374), (.ref a353), (.ref a353)])) rfl rfl (hb hby own_h104)
    have N458 := Fr.snoc X454 N431 G377
    have hk459 := Nat.le_trans hk432 (show h426.size ≤ h453.size from Nat.le_of_eq W456.size.symm)
    have F461 := Exa.wr W456 F434
    have F462 := Fld.other W456 F435 (Or.inl ne408)
    have F463 := Fld.other W456 F436 (Or.inl ne408)
    have Z464 : n0 ≤ h453.size := W456.size ▸ Z437
    have O465 := O438.wr W456 G377
    have P466 : Keep h0 h453 [] := P439.wr W456 (Or.inr H0376)
    have Sf467 := Safe.wr W456 Sf441 Cr442.1 Sf440
    have Sf468 := Safe.wr W456 Sf441 Cr442.1 Sf441
    have Cr469 := Cr442.trans (CHr.wr W456 Sf441 Cr442.1)
    have V470 : Arv Z h453 a374 kA367 .char (3 : Int32) [(.int (nar .char ((xv &&& (255 : Int32)).toUInt32.toUInt16.toUInt32.toInt32))), (.int (nar .char ((((xv.toUInt32 >>> ((8 : Int32) &&& 31).toUInt32).toInt32) &&& (255 : Int32)).toUInt32.toUInt16.toUInt32.toInt32))), (.int (nar .char ((((xv.toUInt32 >>> ((16 : Int32) &&& 31).toUInt32).toInt32) &&& (255 : Int32)).toUInt32.toUInt16.toUInt32.toInt32)))] (.int (0 : Int32)) := Arv.set Ar445 q446 S447 Ng448 H449 Gf450 (fits_nar_char _) W456 2 rfl (own_lt rfl)
    have k34 : own_J p e below T452 m 114 #[.val (.int xv), .val (.int (((xv.toUInt32 >>> ((24 : Int32) &&& 31).toUInt32).toInt32) &&& (3 : Int32))), .val (.int ((xv &&& (255 : Int32)).toUInt32.toUInt16.toUInt32.toInt32)), .val (.int ((((xv.toUInt32 >>> ((8 : Int32) &&& 31).toUInt32).toInt32) &&& (255 : Int32)).toUInt32.toUInt16.toUInt32.toInt32)), .val (.int ((((xv.toUInt32 >>> ((16 : Int32) &&& 31).toUInt32).toInt32) &&& (255 : Int32)).toUInt32.toUInt16.toUInt32.toInt32))] [(.ref a374), (.ref a353), (.ref a353)] B_ := fun t_ hh => k33 t_ (st457 t_ hh)
    have hp471 : ∀ c ∈ ([(nar .char ((xv &&& (255 : Int32)).toUInt32.toUInt16.toUInt32.toInt32)), (nar .char ((((xv.toUInt32 >>> ((8 : Int32) &&& 31).toUInt32).toInt32) &&& (255 : Int32)).toUInt32.toUInt16.toUInt32.toInt32)), (nar .char ((((xv.toUInt32 >>> ((16 : Int32) &&& 31).toUInt32).toInt32) &&& (255 : Int32)).toUInt32.toUInt16.toUInt32.toInt32))] : List Int32), own_b8 c := (List.forall_mem_cons.mpr ⟨(own_b8_nar (own_b8_mask _)), (List.forall_mem_cons.mpr ⟨(own_b8_nar (own_b8_mask _)), (List.forall_mem_cons.mpr ⟨(own_b8_nar (own_b8_mask _)), (fun _ q => nomatch q)⟩)⟩)⟩)
    have F472 : Arv Z h453 a374 kA367 .char (Int32.ofNat 3) (([(nar .char ((xv &&& (255 : Int32)).toUInt32.toUInt16.toUInt32.toInt32)), (nar .char ((((xv.toUInt32 >>> ((8 : Int32) &&& 31).toUInt32).toInt32) &&& (255 : Int32)).toUInt32.toUInt16.toUInt32.toInt32)), (nar .char ((((xv.toUInt32 >>> ((16 : Int32) &&& 31).toUInt32).toInt32) &&& (255 : Int32)).toUInt32.toUInt16.toUInt32.toInt32))] : List Int32).map Value.int) (.int 0) := V470
    obtain ⟨_, _, ⟨T473, L474, k_475, n_476⟩, -, X477, ⟨Lc478, hQ479, l_480, y_481, z_482⟩, st483⟩ := X454.specialBack hx (y := (⟨"java/lang/String", "<init>", "([C)V"⟩ : MethodName)) rfl hown (mvT hZ (wT hw 9 rfl)) (mvT hZ (wT hw 10 rfl)) (mvT hZ (wT hw 11 rfl)) (by decide) (StrChars.Road.backV (W := 1) hZ (fun d hd => hw d (own_sub_words d hd)) (kI := 4) (wT hw 6 rfl) (cs := ([(nar .char ((xv &&& (255 : Int32)).toUInt32.toUInt16.toUInt32.toInt32)), (nar .char ((((xv.toUInt32 >>> ((8 : Int32) &&& 31).toUInt32).toInt32) &&& (255 : Int32)).toUInt32.toUInt16.toUInt32.toInt32)), (nar .char ((((xv.toUInt32 >>> ((16 : Int32) &&& 31).toUInt32).toInt32) &&& (255 : Int32)).toUInt32.toUInt16.toUInt32.toInt32))] : List Int32)) (n0 := n0) G356 Z464 F461 F462 F463 F472 (Sta.ext O465.2 sC) hc rfl rfl (own_lt rfl) (own_l rfl) (fun c hc => (hp471 c hc)) rfl (by decide) (by decide)) (g := (mkF m 114 #[.val (.int xv), .val (.int (((xv.toUInt32 >>> ((24 : Int32) &&& 31).toUInt32).toInt32) &&& (3 : Int32))), .val (.int ((xv &&& (255 : Int32)).toUInt32.toUInt16.toUInt32.toInt32)), .val (.int ((((xv.toUInt32 >>> ((8 : Int32) &&& 31).toUInt32).toInt32) &&& (255 : Int32)).toUInt32.toUInt16.toUInt32.toInt32)), .val (.int ((((xv.toUInt32 >>> ((16 : Int32) &&& 31).toUInt32).toInt32) &&& (255 : Int32)).toUInt32.toUInt16.toUInt32.toInt32))] [(.ref a374), (.ref a353), (.ref a353)])) rfl (by rw [hml]; rfl) (Steps.refl _) (a := a353) (argsL := [(.ref a374)]) (rest := [(.ref a353)]) (lenOf own_h57 rfl) rfl (by show 2 * 0 + _ ≤ _; exact Nat.le_of_eq rfl) (hb hby own_h105) (fun _ _ => ⟨rfl, e455, own_l rfl, own_l rfl⟩)
    dsimp only [Pt.U, Pt.locs, Pt.cells, Pt.slots] at X477 l_480 y_481 z_482 st483 hQ479
    subst l_480 y_481 z_482
    obtain ⟨rfl, N484, K485, E486, F487, t488, kb489, G490, G491, G492, F493, F494⟩ := hQ479
    have N495 := Fr.app N458 N484
    have F496 := F461.keep K485
    have F497 := F472.keep K485 (ninS (Ne.symm ne408) nin0)
    have Z498 : n0 ≤ T473.heap.size := Nat.le_trans Z464 K485.1
    have hk499 := Nat.le_trans hk459 K485.1
    have Sf500 := Safe.keep K485 (allS Sf467 all0) Cr469.1 Sf467
    have Sf501 := Safe.keep K485 (allS Sf467 all0) Cr469.1 Sf468
    have Cr502 := Cr469.trans (CHr.keep K485 (allS Sf467 all0) Cr469.1)
    have O503 := O465.keep K485 (allS G356 all0)
    have P504 : Keep h0 T473.heap [] := P466.trans K485 (allS (P := fun x => x ∈ [] ∨ h0.size ≤ x) (Or.inr H0355) all0)
    have S505 : own_Str Z T473.heap a353 t488 kb489 ([(nar .char ((xv &&& (255 : Int32)).toUInt32.toUInt16.toUInt32.toInt32)), (nar .char ((((xv.toUInt32 >>> ((8 : Int32) &&& 31).toUInt32).toInt32) &&& (255 : Int32)).toUInt32.toUInt16.toUInt32.toInt32)), (nar .char ((((xv.toUInt32 >>> ((16 : Int32) &&& 31).toUInt32).toInt32) &&& (255 : Int32)).toUInt32.toUInt16.toUInt32.toInt32))] : List Int32) := ⟨E486, F493, F487, F494⟩
    have e506 : T473.heap = T473.heap := rfl
    have k35 : own_J p e below T473 m 117 #[.val (.int xv), .val (.int (((xv.toUInt32 >>> ((24 : Int32) &&& 31).toUInt32).toInt32) &&& (3 : Int32))), .val (.int ((xv &&& (255 : Int32)).toUInt32.toUInt16.toUInt32.toInt32)), .val (.int ((((xv.toUInt32 >>> ((8 : Int32) &&& 31).toUInt32).toInt32) &&& (255 : Int32)).toUInt32.toUInt16.toUInt32.toInt32)), .val (.int ((((xv.toUInt32 >>> ((16 : Int32) &&& 31).toUInt32).toInt32) &&& (255 : Int32)).toUInt32.toUInt16.toUInt32.toInt32))] [(.ref a353)] B_ := fun t_ hh => k34 t_ (st483.trans hh)
    obtain ⟨fs, hr, hrun, hended, hEnd⟩ := X477.leaveW hS0 (by rw [e506]; exact hk499) (v := some (.ref a353)) (fun h => by rw [Bd.returns] at h; cases h)
    refine ⟨_, _, (own_from hB_ (k35 _ (retOut X477 hx (t := .object "java/lang/String") Bd.returns rfl (Or.inr (Or.inr (Or.inr (Or.inr ⟨rfl, rfl, rfl⟩)))) (hb hby own_h106) hr))), hrun, hended, _, _, rfl, ?_, ?_, hEnd.1, hEnd.2.1, hEnd.2.2.1, hEnd.2.2.2.mono (own_l rfl) (own_l rfl)⟩
    rotate_left
    · show CHr Z own_EL s.vm s.heap T473.vm T473.heap
      rw [hh, e506]
      exact Cr502.trans (CHv.at X477 hZ (own_EW hw) Cr502.1)
    show Q_rmStr Z xv h0 n0 _ T473.heap _
    rw [e506]
    exact ⟨a353, rfl, N495, P504, E486, G356, H0355, trivial⟩
def Q_rmCe (Z : State) (cv : Int32) (h0 : Heap) (n0 : Nat) (v : Option Value) (h : Heap) (L : List Loc) : Prop := v = some (.int (1 : Int32)) ∧ Fr n0 L ∧ h = h0
theorem own_h107 : plainName "java/lang/StringLatin1" = true := by first | (simp [plainName, overriddenIn]; done) | decide +kernel
theorem own_h108 : decode jdk_43_method_3_code 0 = .ok (.iload_n 0, 1) := by decide +kernel
theorem own_h109 : decode jdk_43_method_3_code 1 = .ok (.sipush 255, 3) := by decide +kernel
theorem own_h110 : decode jdk_43_method_3_code 4 = .ok (.if_icmp .gt 7, 3) := by decide +kernel
theorem own_h111 : decode jdk_43_method_3_code 7 = .ok (.iconst 1, 1) := by decide +kernel
theorem own_h112 : decode jdk_43_method_3_code 8 = .ok (.goto 4, 3) := by decide +kernel
theorem own_h113 : decode jdk_43_method_3_code 12 = .ok (.ireturn, 1) := by decide +kernel
set_option maxRecDepth 65536 in
set_option maxHeartbeats 40000000 in
theorem rmCe (l : Launch) (Z : State) (a0 : Array Value) (hw : ∀ d ∈ tables_1, d.before a0 Z = true) (ws : List Jvm.Cond) (cv : Int32) (h0 : Heap) (n0 : Nat) (Z0 : n0 ≤ h0.size) (hb8 : own_b8 cv)  :
    own_Met l (⟨"java/lang/StringLatin1", "canEncode", "(C)Z"⟩ : MethodName) jdk_43_method_3_code 1 (some .boolean) ws (rO 0 0 0 0) #[(.int cv)] Z h0 (Q_rmCe Z cv h0 n0) := by
 refine MetFree.of_bodySF (plainFor_of_name own_h107) hisR ?_
 intro p e s m args below meth c s₁ Bd hml0 hP hK
 obtain ⟨rfl, hZ, hh⟩ := hP
 have hx := Bd.exec
 have hby := Bd.bytes
 have hml : c.maxLocals = 1 := hml0
 have hown : s.vm.findClass "java/lang/StringLatin1" = some m.cls := findClass_of_methodNamed Bd.named
 have hnm := (name_of_methodNamed Bd.named Bd.method).1
 have X0 : Stand p l e (rO 0 0 0 0) s m #[(.int cv)] below meth c s₁ [] 0 0 := Stand.of_body Bd
 have e0 : s₁.heap = h0 := by rw [← hh, Bd.state]; rfl
 have N0 := Fr.nil n0
 obtain ⟨B_, hB_⟩ : ∃ z, z = s₁.setTop (entryFrame m #[(.int cv)] 1) := ⟨_, rfl⟩
 have k0 : own_K p e below (s₁.setTop (mkF m 0 #[.val (.int cv)] [])) B_ := by rw [hB_]; exact fun t k => castTop (by clear k; first | (simp [entryFrame, mkF, argsToLocals, Value.category, maxLocals]; done) | rfl) k
 have k1 : own_J p e below s₁ m 12 #[.val (.int cv)] [(.int (1 : Int32))] B_ := fun t_ hh => k0 t_ (by
  refine XS.iloadN X0.here hx rfl (hb hby own_h108) rfl ?_
  refine XS.sipush X0.here hx rfl (hb hby own_h109) ?_
  refine XS.icmpNo X0.here hx rfl (hb hby own_h110) rfl (own_icF_gt hb8.2) ?_
  refine XS.iconst X0.here hx rfl (hb hby own_h111) ?_
  refine XS.goto X0.here hx rfl (pc0 := 8) (pc' := 12) rfl (hb hby own_h112) (by decide) (by decide) ?_
  exact hh)
 obtain ⟨fs, hr, hrun, hended, hW, hsame⟩ := X0.leave (v := some (.int (1 : Int32))) (fun h => by rw [Bd.returns] at h; cases h)
 refine ⟨_, _, (own_from hB_ (k1 _ (retN X0 hx (t := .boolean) Bd.returns (by simp) (hb hby own_h113) hr))), hrun, hended, _, _, rfl, ?_, ⟨_, rfl⟩, hW, hsame.mono (own_l rfl) (own_l rfl)⟩
 show Q_rmCe Z cv h0 n0 _ s₁.heap _
 rw [e0]
 exact ⟨rfl, N0, rfl⟩
def Q_rmTb (Z : State) (cv : Int32) (h0 : Heap) (n0 : Nat) (v : Option Value) (h : Heap) (L : List Loc) : Prop := ∃ t : Addr, v = some (.ref t) ∧ Fr n0 L ∧ Keep h0 h [] ∧ n0 ≤ t ∧ h0.size ≤ t ∧ True
theorem own_h114 : decode jdk_43_method_46_code 0 = .ok (.iconst 1, 1) := by decide +kernel
theorem own_h115 : decode jdk_43_method_46_code 1 = .ok (.newarray .byte, 2) := by decide +kernel
theorem own_h116 : decode jdk_43_method_46_code 3 = .ok (.dup, 1) := by decide +kernel
theorem own_h117 : decode jdk_43_method_46_code 4 = .ok (.iconst 0, 1) := by decide +kernel
theorem own_h118 : decode jdk_43_method_46_code 5 = .ok (.iload_n 0, 1) := by decide +kernel
theorem own_h119 : decode jdk_43_method_46_code 6 = .ok (.i2b, 1) := by decide +kernel
theorem own_h120 : decode jdk_43_method_46_code 7 = .ok (.bastore, 1) := by decide +kernel
theorem own_h121 : decode jdk_43_method_46_code 8 = .ok (.areturn, 1) := by decide +kernel
set_option maxRecDepth 65536 in
set_option maxHeartbeats 40000000 in
theorem rmTb (l : Launch) (Z : State) (a0 : Array Value) (hw : ∀ d ∈ tables_1, d.before a0 Z = true) (ws : List Jvm.Cond) (cv : Int32) (h0 : Heap) (n0 : Nat) (Z0 : n0 ≤ h0.size)   :
    own_Met l (⟨"java/lang/StringLatin1", "toBytes", "(C)[B"⟩ : MethodName) jdk_43_method_46_code 1 (some (.array .byte)) ws (rO 0 1 1 0) #[(.int cv)] Z h0 (Q_rmTb Z cv h0 n0) := by
 refine MetFree.of_bodySF (plainFor_of_name own_h107) hisR ?_
 intro p e s m args below meth c s₁ Bd hml0 hP hK
 obtain ⟨rfl, hZ, hh⟩ := hP
 have hx := Bd.exec
 have hby := Bd.bytes
 have hml : c.maxLocals = 1 := hml0
 have hown : s.vm.findClass "java/lang/StringLatin1" = some m.cls := findClass_of_methodNamed Bd.named
 have hnm := (name_of_methodNamed Bd.named Bd.method).1
 have X0 : Stand p l e (rO 0 1 1 0) s m #[(.int cv)] below meth c s₁ [] 0 0 := Stand.of_body Bd
 have e0 : s₁.heap = h0 := by rw [← hh, Bd.state]; rfl
 have N0 := Fr.nil n0
 obtain ⟨B_, hB_⟩ : ∃ z, z = s₁.setTop (entryFrame m #[(.int cv)] 1) := ⟨_, rfl⟩
 have k0 : own_K p e below (s₁.setTop (mkF m 0 #[.val (.int cv)] [])) B_ := by rw [hB_]; exact fun t k => castTop (by clear k; first | (simp [entryFrame, mkF, argsToLocals, Value.category, maxLocals]; done) | rfl) k
 have K0 : Keep h0 h0 [] := Keep.refl _ _
 have k1 : own_J p e below s₁ m 1 #[.val (.int cv)] [(.int (1 : Int32))] B_ := fun t_ hh => k0 t_ (by
  refine XS.iconst X0.here hx rfl (hb hby own_h114) ?_
  exact hh)
 obtain ⟨T21, h22, kA23, X24, e25, E26, A27, st29⟩ := newP X0 hx hZ (wT hw 20 rfl) e0 (g := (mkF m 1 #[.val (.int cv)] [(.int (1 : Int32))])) rfl (hb hby own_h115) rfl (by decide) (cap := 1) (by decide) (by decide) (by decide) (by decide)
 obtain ⟨a30, g31⟩ : ∃ z, z = h0.size := ⟨_, rfl⟩
 rw [← g31] at A27 st29
 have H032 : h0.size ≤ a30 := Nat.le_trans K0.1 (Nat.le_of_eq g31.symm)
 have G33 : n0 ≤ a30 := Nat.le_trans Z0 (Nat.le_of_eq g31.symm)
 have Z34 : n0 ≤ h22.size := Nat.le_trans Z0 E26.1
 have P35 : Keep h0 h22 [] := K0.ext E26
 have V36 : Arv Z h22 a30 kA23 .byte (1 : Int32) [(.int (0 : Int32))] (.int (0 : Int32)) := Arv.pad (Arv.new A27 (by decide)) (pad_rep [] (.int (0 : Int32)) 1)
 have k2 : own_J p e below T21 m 3 #[.val (.int cv)] [(.ref a30)] B_ := fun t_ hh => k1 t_ (st29 t_ hh)
 have k3 : own_J p e below T21 m 7 #[.val (.int cv)] [(.int (cv.toInt8.toInt32)), (.int (0 : Int32)), (.ref a30), (.ref a30)] B_ := fun t_ hh => k2 t_ (by
  refine XS.dup X24.here hx rfl (hb hby own_h116) rfl rfl ?_
  refine XS.iconst X24.here hx rfl (hb hby own_h117) ?_
  refine XS.iloadN X24.here hx rfl (hb hby own_h118) rfl ?_
  refine XS.i2b X24.here hx rfl (hb hby own_h119) rfl ?_
  exact hh)
 obtain ⟨cl37, Ar38, q39, S40, Ng41, H42, Gf43⟩ := id V36
 have hin44 := inb_of (j := (0 : Int32)) S40 (by decide)
 obtain ⟨T45, h46, X47, e48, W49, st50⟩ := stB X24 hx hZ e25 Ar38 (j := (0 : Int32)) hin44 (g := (mkF m 7 #[.val (.int cv)] [(.int (cv.toInt8.toInt32)), (.int (0 : Int32)), (.ref a30), (.ref a30)])) rfl rfl (hb hby own_h120)
 have N51 := Fr.snoc X47 N0 G33
 have Z52 : n0 ≤ h46.size := W49.size ▸ Z34
 have P53 : Keep h0 h46 [] := P35.wr W49 (Or.inr H032)
 have V54 : Arv Z h46 a30 kA23 .byte (1 : Int32) [(.int ((cv.toInt8.toInt32).toInt8.toInt32))] (.int (0 : Int32)) := Arv.set Ar38 q39 S40 Ng41 H42 Gf43 (fits_nar_byte _) W49 0 rfl (own_lt rfl)
 have k4 : own_J p e below T45 m 8 #[.val (.int cv)] [(.ref a30)] B_ := fun t_ hh => k3 t_ (st50 t_ hh)
 obtain ⟨fs, hr, hrun, hended, hW, hsame⟩ := X47.leave (v := some (.ref a30)) (fun h => by rw [Bd.returns] at h; cases h)
 refine ⟨_, _, (own_from hB_ (k4 _ (retOut X47 hx (t := .array .byte) Bd.returns rfl (Or.inr (Or.inr (Or.inr (Or.inr ⟨rfl, rfl, rfl⟩)))) (hb hby own_h121) hr))), hrun, hended, _, _, rfl, ?_, ⟨_, rfl⟩, hW, hsame.mono (own_l rfl) (own_l rfl)⟩
 show Q_rmTb Z cv h0 n0 _ T45.heap _
 rw [e48]
 exact ⟨a30, rfl, N51, P53, G33, H032, trivial⟩
def Q_rmIb (Z : State) (a : Addr) (t : Addr) (h0 : Heap) (n0 : Nat) (v : Option Value) (h : Heap) (L : List Loc) : Prop := v = none ∧ Fr n0 L ∧ Keep h0 h [a] ∧ Exa Z h a "java/lang/String" ∧ True
theorem own_h122 : decode jdk_42_method_151_code 0 = .ok (.aload_n 0, 1) := by decide +kernel
theorem own_h123 : decode jdk_42_method_151_code 1 = .ok (.invokespecial 1, 3) := by decide +kernel
theorem own_h124 : decode jdk_42_method_151_code 4 = .ok (.aload_n 0, 1) := by decide +kernel
theorem own_h125 : decode jdk_42_method_151_code 5 = .ok (.aload_n 1, 1) := by decide +kernel
theorem own_h126 : decode jdk_42_method_151_code 6 = .ok (.putfield 9, 3) := by decide +kernel
theorem own_h127 : decode jdk_42_method_151_code 9 = .ok (.aload_n 0, 1) := by decide +kernel
theorem own_h128 : decode jdk_42_method_151_code 10 = .ok (.iload_n 2, 1) := by decide +kernel
theorem own_h129 : decode jdk_42_method_151_code 11 = .ok (.putfield 15, 3) := by decide +kernel
theorem own_h130 : decode jdk_42_method_151_code 14 = .ok (.return_, 1) := by decide +kernel
set_option maxRecDepth 65536 in
set_option maxHeartbeats 40000000 in
theorem rmIb (l : Launch) (Z : State) (a0 : Array Value) (hw : ∀ d ∈ tables_1, d.before a0 Z = true) (ws : List Jvm.Cond) (a : Addr) (t : Addr) (h0 : Heap) (n0 : Nat) (Z0 : n0 ≤ h0.size) (f0_ : Exa Z h0 a "java/lang/String") (f1_ : Fld Z h0 a "java/lang/String" "value" "[B" .null) (f2_ : Fld Z h0 a "java/lang/String" "coder" "B" (.int (0 : Int32))) (f3_ : n0 ≤ a)  :
    own_Met l (⟨"java/lang/String", "<init>", "([BB)V"⟩ : MethodName) jdk_42_method_151_code 3 none ws (rO 1 0 0 12) #[(.ref a), (.ref t), (.int (0 : Int32))] Z h0 (Q_rmIb Z a t h0 n0) := by
 refine MetFree.of_bodySF (plainFor_of_name own_h1) hisR ?_
 intro p e s m args below meth c s₁ Bd hml0 hP hK
 obtain ⟨rfl, hZ, hh⟩ := hP
 have hx := Bd.exec
 have hby := Bd.bytes
 have hml : c.maxLocals = 3 := hml0
 have hown : s.vm.findClass "java/lang/String" = some m.cls := findClass_of_methodNamed Bd.named
 have hnm := (name_of_methodNamed Bd.named Bd.method).1
 have X0 : Stand p l e (rO 1 0 0 12) s m #[(.ref a), (.ref t), (.int (0 : Int32))] below meth c s₁ [] 0 0 := Stand.of_body Bd
 have e0 : s₁.heap = h0 := by rw [← hh, Bd.state]; rfl
 have N0 := Fr.nil n0
 obtain ⟨B_, hB_⟩ : ∃ z, z = s₁.setTop (entryFrame m #[(.ref a), (.ref t), (.int (0 : Int32))] 3) := ⟨_, rfl⟩
 have k0 : own_K p e below (s₁.setTop (mkF m 0 #[.val (.ref a), .val (.ref t), .val (.int (0 : Int32))] [])) B_ := by rw [hB_]; exact fun t k => castTop (by clear k; first | (simp [entryFrame, mkF, argsToLocals, Value.category, maxLocals]; done) | rfl) k
 have K0 : Keep h0 h0 [a] := Keep.refl _ _
 have k1 : own_J p e below s₁ m 1 #[.val (.ref a), .val (.ref t), .val (.int (0 : Int32))] [(.ref a)] B_ := fun t_ hh => k0 t_ (by
  refine XS.aloadN X0.here hx rfl (hb hby own_h122) rfl rfl ?_
  exact hh)
 obtain ⟨T21, X22, e23, st24⟩ := initO X0 hx hZ hown (wT hw 16 rfl) (wT hw 17 rfl) (wT hw 18 rfl) e0 (g := (mkF m 1 #[.val (.ref a), .val (.ref t), .val (.int (0 : Int32))] [(.ref a)])) rfl (by rw [hml]; rfl) rfl (hb hby own_h123) (by decide) (W := 0) (by show 2 * 0 + _ ≤ _; exact Nat.le_of_eq rfl) (by decide)
 have k2 : own_J p e below T21 m 4 #[.val (.ref a), .val (.ref t), .val (.int (0 : Int32))] [] B_ := fun t_ hh => k1 t_ (st24 t_ hh)
 have k3 : own_J p e below T21 m 6 #[.val (.ref a), .val (.ref t), .val (.int (0 : Int32))] [(.ref t), (.ref a)] B_ := fun t_ hh => k2 t_ (by
  refine XS.aloadN X22.here hx rfl (hb hby own_h124) rfl rfl ?_
  refine XS.aloadN X22.here hx rfl (hb hby own_h125) rfl rfl ?_
  exact hh)
 obtain ⟨T25, h26, X27, e28, W29, st30⟩ := putF X22 hx hZ hown (host := "") (Or.inl (wT hw 25 rfl)) Via.refl e23 f1_ f0_ (Or.inr ⟨(wT hw 21 rfl), rfl, hnm⟩) (wT hw 6 rfl) (ty := .array .byte) (by decide) rfl rfl (g := (mkF m 6 #[.val (.ref a), .val (.ref t), .val (.int (0 : Int32))] [(.ref t), (.ref a)])) rfl rfl (hb hby own_h126)
 have N31 := Fr.snoc X27 N0 f3_
 have F32 := Exa.wr W29 f0_
 have F33 : Fld Z h26 a "java/lang/String" "value" "[B" (.ref t) := Fld.same W29 f1_
 have F34 := Fld.other W29 f2_ (Or.inr (slot_ne (Or.inr (wT hw 22 rfl)) (Or.inr (wT hw 21 rfl)) (by decide) (t := .byte) (t' := (.array .byte)) (by decide) (by decide)))
 have Z35 : n0 ≤ h26.size := W29.size ▸ Z0
 have P36 : Keep h0 h26 [a] := K0.wr W29 (Or.inl (List.mem_of_getElem? (i := 0) rfl))
 have k4 : own_J p e below T25 m 9 #[.val (.ref a), .val (.ref t), .val (.int (0 : Int32))] [] B_ := fun t_ hh => k3 t_ (st30 t_ hh)
 have k5 : own_J p e below T25 m 11 #[.val (.ref a), .val (.ref t), .val (.int (0 : Int32))] [(.int (0 : Int32)), (.ref a)] B_ := fun t_ hh => k4 t_ (by
  refine XS.aloadN X27.here hx rfl (hb hby own_h127) rfl rfl ?_
  refine XS.iloadN X27.here hx rfl (hb hby own_h128) rfl ?_
  exact hh)
 obtain ⟨T37, h38, X39, e40, W41, st42⟩ := putF X27 hx hZ hown (host := "") (Or.inl (wT hw 26 rfl)) Via.refl e28 F34 F32 (Or.inr ⟨(wT hw 22 rfl), rfl, hnm⟩) (wT hw 6 rfl) (ty := .byte) (by decide) rfl rfl (g := (mkF m 11 #[.val (.ref a), .val (.ref t), .val (.int (0 : Int32))] [(.int (0 : Int32)), (.ref a)])) rfl rfl (hb hby own_h129)
 have N43 := Fr.snoc X39 N31 f3_
 have F44 := Exa.wr W41 F32
 have F45 := Fld.other W41 F33 (Or.inr (slot_ne (Or.inr (wT hw 21 rfl)) (Or.inr (wT hw 22 rfl)) (by decide) (t := (.array .byte)) (t' := .byte) (by decide) (by decide)))
 have F46 : Fld Z h38 a "java/lang/String" "coder" "B" (.int (0 : Int32)) := Fld.same W41 F34
 have Z47 : n0 ≤ h38.size := W41.size ▸ Z35
 have P48 : Keep h0 h38 [a] := P36.wr W41 (Or.inl (List.mem_of_getElem? (i := 0) rfl))
 have k6 : own_J p e below T37 m 14 #[.val (.ref a), .val (.ref t), .val (.int (0 : Int32))] [] B_ := fun t_ hh => k5 t_ (st42 t_ hh)
 obtain ⟨fs, hr, hrun, hended, hW, hsame⟩ := X39.leave (v := none) (fun _ => rfl)
 refine ⟨_, _, (own_from hB_ (k6 _ (X39.returnOut hx Bd.returns (hb hby own_h130) hr))), hrun, hended, _, _, rfl, ?_, ⟨_, rfl⟩, hW, hsame.mono (own_l rfl) (own_l rfl)⟩
 show Q_rmIb Z a t h0 n0 _ T37.heap _
 rw [e40]
 exact ⟨rfl, N43, P48, F44, trivial⟩
def Q_rmVo (Z : State) (cv : Int32) (h0 : Heap) (n0 : Nat) (v : Option Value) (h : Heap) (L : List Loc) : Prop := ∃ r : Addr, v = some (.ref r) ∧ Fr n0 L ∧ Keep h0 h [] ∧ Exa Z h r "java/lang/String" ∧ n0 ≤ r ∧ h0.size ≤ r ∧ True
theorem own_h131 : decode jdk_42_method_139_code 0 = .ok (.getstatic 38, 3) := by decide +kernel
theorem own_h132 : decode jdk_42_method_139_code 3 = .ok (.ifCond .eq 23, 3) := by decide +kernel
theorem own_h133 : decode jdk_42_method_139_code 6 = .ok (.iload_n 0, 1) := by decide +kernel
theorem own_h134 : decode jdk_42_method_139_code 7 = .ok (.invokestatic 1015, 3) := by decide +kernel
theorem own_h135 : parseMethodDescriptor "(C)Z" = some ⟨[.char], some .boolean⟩ := by decide +kernel
theorem own_h136 : decode jdk_42_method_139_code 10 = .ok (.ifCond .eq 16, 3) := by decide +kernel
theorem own_h137 : decode jdk_42_method_139_code 13 = .ok (.new 10, 3) := by decide +kernel
theorem own_h138 : decode jdk_42_method_139_code 16 = .ok (.dup, 1) := by decide +kernel
theorem own_h139 : decode jdk_42_method_139_code 17 = .ok (.iload_n 0, 1) := by decide +kernel
theorem own_h140 : decode jdk_42_method_139_code 18 = .ok (.invokestatic 1018, 3) := by decide +kernel
theorem own_h141 : parseMethodDescriptor "(C)[B" = some ⟨[.char], some (.array .byte)⟩ := by decide +kernel
theorem own_h142 : decode jdk_42_method_139_code 21 = .ok (.iconst 0, 1) := by decide +kernel
theorem own_h143 : decode jdk_42_method_139_code 22 = .ok (.invokespecial 209, 3) := by decide +kernel
theorem own_h144 : parseMethodDescriptor "([BB)V" = some ⟨[.array .byte, .byte], none⟩ := by decide +kernel
theorem own_h145 : decode jdk_42_method_139_code 25 = .ok (.areturn, 1) := by decide +kernel
set_option maxRecDepth 65536 in
set_option maxHeartbeats 40000000 in
theorem rmVo (l : Launch) (Z : State) (a0 : Array Value) (hw : ∀ d ∈ tables_1, d.before a0 Z = true) (ws : List Jvm.Cond) (cv : Int32) (h0 : Heap) (n0 : Nat) (Z0 : n0 ≤ h0.size) (f0_ : Old Z n0 h0) (hb8 : own_b8 cv) (ci : Int32) (sC : Sta Z Z.heap "java/lang/String" "COMPACT_STRINGS" "Z" (.int ci)) (hc : ¬ ci = 0) :
    own_Met l (⟨"java/lang/String", "valueOf", "(C)Ljava/lang/String;"⟩ : MethodName) jdk_42_method_139_code 1 (some (.object "java/lang/String")) ws (rO 2 2 5 27) #[(.int cv)] Z h0 (Q_rmVo Z cv h0 n0) := by
 refine MetFree.of_bodySF (plainFor_of_name own_h1) hisR ?_
 intro p e s m args below meth c s₁ Bd hml0 hP hK
 obtain ⟨rfl, hZ, hh⟩ := hP
 have hx := Bd.exec
 have hby := Bd.bytes
 have hml : c.maxLocals = 1 := hml0
 have hown : s.vm.findClass "java/lang/String" = some m.cls := findClass_of_methodNamed Bd.named
 have hnm := (name_of_methodNamed Bd.named Bd.method).1
 have X0 : Stand p l e (rO 2 2 5 27) s m #[(.int cv)] below meth c s₁ [] 0 0 := Stand.of_body Bd
 have e0 : s₁.heap = h0 := by rw [← hh, Bd.state]; rfl
 have N0 := Fr.nil n0
 obtain ⟨B_, hB_⟩ : ∃ z, z = s₁.setTop (entryFrame m #[(.int cv)] 1) := ⟨_, rfl⟩
 have k0 : own_K p e below (s₁.setTop (mkF m 0 #[.val (.int cv)] [])) B_ := by rw [hB_]; exact fun t k => castTop (by clear k; first | (simp [entryFrame, mkF, argsToLocals, Value.category, maxLocals]; done) | rfl) k
 have K0 : Keep h0 h0 [] := Keep.refl _ _
 obtain ⟨T21, X22, e23, st24⟩ := getS X0 hx hZ hown (host := "") (wT hw 109 rfl) Via.refl e0 (Sta.ext f0_.2 sC) (g := (mkF m 0 #[.val (.int cv)] [])) rfl (hb hby own_h131)
 have k1 : own_J p e below T21 m 3 #[.val (.int cv)] [(.int ci)] B_ := fun t_ hh => k0 t_ (st24 t_ hh)
 have k2 : own_J p e below T21 m 7 #[.val (.int cv)] [(.int cv)] B_ := fun t_ hh => k1 t_ (by
  refine XS.ifNo X22.here hx rfl (hb hby own_h132) rfl (own_ifF_eq hc) ?_
  refine XS.iloadN X22.here hx rfl (hb hby own_h133) rfl ?_
  exact hh)
 obtain ⟨_, _, ⟨T25, L26, k_27, n_28⟩, -, X29, ⟨Lc30, hQ31, l_32, y_33, z_34⟩, st35⟩ := Jvm.LawKit.callS X22 hx (y := (⟨"java/lang/StringLatin1", "canEncode", "(C)Z"⟩ : MethodName)) hown (mvT hZ (wT hw 110 rfl)) (mvT hZ (wT hw 111 rfl)) (mvT hZ (wT hw 112 rfl)) (mvT hZ (wT hw 113 rfl)) (by decide) (backOf (W := 0) (rmCe l Z a0 hw [] cv h0 n0 Z0 hb8 ) hZ (wT hw 113 rfl) (wT hw 112 rfl) (by decide) (by decide)) (g := (mkF m 7 #[.val (.int cv)] [(.int cv)])) rfl (by rw [hml]; rfl) (argsL := [(.int cv)]) (rest := []) (lenOf own_h135 rfl) rfl (by show 2 * 0 + _ ≤ _; exact Nat.le_of_eq rfl) (hb hby own_h134) (fun _ _ => ⟨rfl, e23, own_l rfl, own_l rfl⟩)
 dsimp only [Pt.U, Pt.locs, Pt.cells, Pt.slots] at X29 l_32 y_33 z_34 st35 hQ31
 subst l_32 y_33 z_34
 obtain ⟨rfl, N36, e37⟩ := hQ31
 have N38 := Fr.app N0 N36
 have k3 : own_J p e below T25 m 10 #[.val (.int cv)] [(.int (1 : Int32))] B_ := fun t_ hh => k2 t_ (st35 t_ hh)
 have k4 : own_J p e below T25 m 13 #[.val (.int cv)] [] B_ := fun t_ hh => k3 t_ (by
  refine XS.ifNo X29.here hx rfl (hb hby own_h136) rfl (by decide) ?_
  exact hh)
 obtain ⟨T39, h40, X41, e42, E43, A44, D45, U47, st46⟩ := newO X29 hx hZ hown (wT hw 114 rfl) (wT hw 6 rfl) (wT hw 7 rfl) e37 (g := (mkF m 13 #[.val (.int cv)] [])) rfl (hb hby own_h137) (by decide) (by decide)
 obtain ⟨a48, g49⟩ : ∃ z, z = h0.size := ⟨_, rfl⟩
 rw [← g49] at A44 D45 U47 st46
 have H050 : h0.size ≤ a48 := Nat.le_trans K0.1 (Nat.le_of_eq g49.symm)
 have G51 : n0 ≤ a48 := Nat.le_trans Z0 (Nat.le_of_eq g49.symm)
 have Z52 : n0 ≤ h40.size := Nat.le_trans Z0 E43.1
 have O53 := f0_.ext E43
 have P54 : Keep h0 h40 [] := K0.ext E43
 have F55 : Fld Z h40 a48 "java/lang/String" "value" "[B" .null := D45 (Or.inr (wT hw 21 rfl)) (ty := .array .byte) (by decide)
 have F56 : Fld Z h40 a48 "java/lang/String" "coder" "B" (.int (0 : Int32)) := D45 (Or.inr (wT hw 22 rfl)) (ty := .byte) (by decide)
 have k5 : own_J p e below T39 m 16 #[.val (.int cv)] [(.ref a48)] B_ := fun t_ hh => k4 t_ (st46 t_ hh)
 have k6 : own_J p e below T39 m 18 #[.val (.int cv)] [(.int cv), (.ref a48), (.ref a48)] B_ := fun t_ hh => k5 t_ (by
  refine XS.dup X41.here hx rfl (hb hby own_h138) rfl rfl ?_
  refine XS.iloadN X41.here hx rfl (hb hby own_h139) rfl ?_
  exact hh)
 obtain ⟨_, _, ⟨T57, L58, k_59, n_60⟩, -, X61, ⟨Lc62, hQ63, l_64, y_65, z_66⟩, st67⟩ := Jvm.LawKit.callS X41 hx (y := (⟨"java/lang/StringLatin1", "toBytes", "(C)[B"⟩ : MethodName)) hown (mvT hZ (wT hw 115 rfl)) (mvT hZ (wT hw 116 rfl)) (mvT hZ (wT hw 112 rfl)) (mvT hZ (wT hw 117 rfl)) (by decide) (backOf (W := 2) (rmTb l Z a0 hw [] cv h40 n0 Z52  ) hZ (wT hw 117 rfl) (wT hw 112 rfl) (by decide) (by decide)) (g := (mkF m 18 #[.val (.int cv)] [(.int cv), (.ref a48), (.ref a48)])) rfl (by rw [hml]; rfl) (argsL := [(.int cv)]) (rest := [(.ref a48), (.ref a48)]) (lenOf own_h141 rfl) rfl (by show 2 * 0 + _ ≤ _; exact Nat.le_of_eq rfl) (hb hby own_h140) (fun _ _ => ⟨rfl, e42, own_l rfl, own_l rfl⟩)
 dsimp only [Pt.U, Pt.locs, Pt.cells, Pt.slots] at X61 l_64 y_65 z_66 st67 hQ63
 subst l_64 y_65 z_66
 obtain ⟨t69, rfl, N68, K72, F70, F71, -⟩ := hQ63
 have N73 := Fr.app N38 N68
 have H074 : h0.size ≤ t69 := Nat.le_trans P54.1 F71
 have F75 := A44.keep K72
 have F76 := F55.keep K72 nin0
 have F77 := F56.keep K72 nin0
 have Z78 : n0 ≤ T57.heap.size := Nat.le_trans Z52 K72.1
 have O79 := O53.keep K72 all0
 have P80 : Keep h0 T57.heap [] := P54.trans K72 (fun _ q => nomatch q)
 have e81 : T57.heap = T57.heap := rfl
 have k7 : own_J p e below T57 m 21 #[.val (.int cv)] [(.ref t69), (.ref a48), (.ref a48)] B_ := fun t_ hh => k6 t_ (st67 t_ hh)
 have k8 : own_J p e below T57 m 22 #[.val (.int cv)] [(.int (0 : Int32)), (.ref t69), (.ref a48), (.ref a48)] B_ := fun t_ hh => k7 t_ (by
  refine XS.iconst X61.here hx rfl (hb hby own_h142) ?_
  exact hh)
 obtain ⟨_, _, ⟨T82, L83, k_84, n_85⟩, -, X86, ⟨Lc87, hQ88, l_89, y_90, z_91⟩, st92⟩ := X61.specialBack hx (y := (⟨"java/lang/String", "<init>", "([BB)V"⟩ : MethodName)) rfl hown (mvT hZ (wT hw 118 rfl)) (mvT hZ (wT hw 119 rfl)) (mvT hZ (wT hw 120 rfl)) (by decide) (backOf (W := 1) (rmIb l Z a0 hw [] a48 t69 T57.heap n0 Z78 F75 F76 F77 G51 ) hZ (wT hw 120 rfl) (wT hw 7 rfl) (by decide) (by decide)) (g := (mkF m 22 #[.val (.int cv)] [(.int (0 : Int32)), (.ref t69), (.ref a48), (.ref a48)])) rfl (by rw [hml]; rfl) (Steps.refl _) (a := a48) (argsL := [(.ref t69), (.int (0 : Int32))]) (rest := [(.ref a48)]) (lenOf own_h144 rfl) rfl (by show 2 * 0 + _ ≤ _; exact Nat.le_of_eq rfl) (hb hby own_h143) (fun _ _ => ⟨rfl, e81, own_l rfl, own_l rfl⟩)
 dsimp only [Pt.U, Pt.locs, Pt.cells, Pt.slots] at X86 l_89 y_90 z_91 st92 hQ88
 subst l_89 y_90 z_91
 obtain ⟨rfl, N93, K95, F94, -⟩ := hQ88
 have N96 := Fr.app N73 N93
 have F97 := F75.keep K95
 have Z98 : n0 ≤ T82.heap.size := Nat.le_trans Z78 K95.1
 have O99 := O79.keep K95 (allS G51 all0)
 have P100 : Keep h0 T82.heap [] := P80.trans K95 (allS (P := fun x => x ∈ [] ∨ h0.size ≤ x) (Or.inr H050) all0)
 have e101 : T82.heap = T82.heap := rfl
 have k9 : own_J p e below T82 m 25 #[.val (.int cv)] [(.ref a48)] B_ := fun t_ hh => k8 t_ (st92.trans hh)
 obtain ⟨fs, hr, hrun, hended, hW, hsame⟩ := X86.leave (v := some (.ref a48)) (fun h => by rw [Bd.returns] at h; cases h)
 refine ⟨_, _, (own_from hB_ (k9 _ (retOut X86 hx (t := .object "java/lang/String") Bd.returns rfl (Or.inr (Or.inr (Or.inr (Or.inr ⟨rfl, rfl, rfl⟩)))) (hb hby own_h145) hr))), hrun, hended, _, _, rfl, ?_, ⟨_, rfl⟩, hW, hsame.mono (own_l rfl) (own_l rfl)⟩
 show Q_rmVo Z cv h0 n0 _ T82.heap _
 rw [e101]
 exact ⟨a48, rfl, N96, P100, F94, G51, H050, trivial⟩
def Q_rmAC (Z : State) (a : Addr) (h0 : Heap) (n0 : Nat) (v : Option Value) (h : Heap) (L : List Loc) : Prop := v = none ∧ Fr n0 L ∧ h = h0
theorem own_h146 : plainName "java/util/AbstractCollection" = true := by first | (simp [plainName, overriddenIn]; done) | decide +kernel
theorem own_h147 : decode jdk_22_method_1_code 0 = .ok (.aload_n 0, 1) := by decide +kernel
theorem own_h148 : decode jdk_22_method_1_code 1 = .ok (.invokespecial 1, 3) := by decide +kernel
theorem own_h149 : decode jdk_22_method_1_code 4 = .ok (.return_, 1) := by decide +kernel
set_option maxRecDepth 65536 in
set_option maxHeartbeats 40000000 in
theorem rmAC (l : Launch) (Z : State) (a0 : Array Value) (hw : ∀ d ∈ tables_1, d.before a0 Z = true) (ws : List Jvm.Cond) (a : Addr) (h0 : Heap) (n0 : Nat) (Z0 : n0 ≤ h0.size)   :
    own_Met l (⟨"java/util/AbstractCollection", "<init>", "()V"⟩ : MethodName) jdk_22_method_1_code 1 none ws (rO 1 0 0 12) #[(.ref a)] Z h0 (Q_rmAC Z a h0 n0) := by
 refine MetFree.of_bodySF (plainFor_of_name own_h146) hisR ?_
 intro p e s m args below meth c s₁ Bd hml0 hP hK
 obtain ⟨rfl, hZ, hh⟩ := hP
 have hx := Bd.exec
 have hby := Bd.bytes
 have hml : c.maxLocals = 1 := hml0
 have hown : s.vm.findClass "java/util/AbstractCollection" = some m.cls := findClass_of_methodNamed Bd.named
 have hnm := (name_of_methodNamed Bd.named Bd.method).1
 have X0 : Stand p l e (rO 1 0 0 12) s m #[(.ref a)] below meth c s₁ [] 0 0 := Stand.of_body Bd
 have e0 : s₁.heap = h0 := by rw [← hh, Bd.state]; rfl
 have N0 := Fr.nil n0
 obtain ⟨B_, hB_⟩ : ∃ z, z = s₁.setTop (entryFrame m #[(.ref a)] 1) := ⟨_, rfl⟩
 have k0 : own_K p e below (s₁.setTop (mkF m 0 #[.val (.ref a)] [])) B_ := by rw [hB_]; exact fun t k => castTop (by clear k; first | (simp [entryFrame, mkF, argsToLocals, Value.category, maxLocals]; done) | rfl) k
 have k1 : own_J p e below s₁ m 1 #[.val (.ref a)] [(.ref a)] B_ := fun t_ hh => k0 t_ (by
  refine XS.aloadN X0.here hx rfl (hb hby own_h147) rfl rfl ?_
  exact hh)
 obtain ⟨T21, X22, e23, st24⟩ := initO X0 hx hZ hown (wT hw 45 rfl) (wT hw 17 rfl) (wT hw 18 rfl) e0 (g := (mkF m 1 #[.val (.ref a)] [(.ref a)])) rfl (by rw [hml]; rfl) rfl (hb hby own_h148) (by decide) (W := 0) (by show 2 * 0 + _ ≤ _; exact Nat.le_of_eq rfl) (by decide)
 have k2 : own_J p e below T21 m 4 #[.val (.ref a)] [] B_ := fun t_ hh => k1 t_ (st24 t_ hh)
 obtain ⟨fs, hr, hrun, hended, hW, hsame⟩ := X22.leave (v := none) (fun _ => rfl)
 refine ⟨_, _, (own_from hB_ (k2 _ (X22.returnOut hx Bd.returns (hb hby own_h149) hr))), hrun, hended, _, _, rfl, ?_, ⟨_, rfl⟩, hW, hsame.mono (own_l rfl) (own_l rfl)⟩
 show Q_rmAC Z a h0 n0 _ T21.heap _
 rw [e23]
 exact ⟨rfl, N0, rfl⟩
def Q_rmAIC (Z : State) (a : Addr) (h0 : Heap) (n0 : Nat) (v : Option Value) (h : Heap) (L : List Loc) : Prop := v = none ∧ Fr n0 L ∧ h = h0
theorem own_h150 : plainName "java/util/ImmutableCollections$AbstractImmutableCollection" = true := by first | (simp [plainName, overriddenIn]; done) | decide +kernel
theorem own_h151 : decode jdk_47_method_1_code 0 = .ok (.aload_n 0, 1) := by decide +kernel
theorem own_h152 : decode jdk_47_method_1_code 1 = .ok (.invokespecial 1, 3) := by decide +kernel
theorem own_h153 : parseMethodDescriptor "()V" = some ⟨[], none⟩ := by decide +kernel
theorem own_h154 : decode jdk_47_method_1_code 4 = .ok (.return_, 1) := by decide +kernel
set_option maxRecDepth 65536 in
set_option maxHeartbeats 40000000 in
theorem rmAIC (l : Launch) (Z : State) (a0 : Array Value) (hw : ∀ d ∈ tables_1, d.before a0 Z = true) (ws : List Jvm.Cond) (a : Addr) (h0 : Heap) (n0 : Nat) (Z0 : n0 ≤ h0.size)   :
    own_Met l (⟨"java/util/ImmutableCollections$AbstractImmutableCollection", "<init>", "()V"⟩ : MethodName) jdk_47_method_1_code 1 none ws (rO 2 0 0 24) #[(.ref a)] Z h0 (Q_rmAIC Z a h0 n0) := by
 refine MetFree.of_bodySF (plainFor_of_name own_h150) hisR ?_
 intro p e s m args below meth c s₁ Bd hml0 hP hK
 obtain ⟨rfl, hZ, hh⟩ := hP
 have hx := Bd.exec
 have hby := Bd.bytes
 have hml : c.maxLocals = 1 := hml0
 have hown : s.vm.findClass "java/util/ImmutableCollections$AbstractImmutableCollection" = some m.cls := findClass_of_methodNamed Bd.named
 have hnm := (name_of_methodNamed Bd.named Bd.method).1
 have X0 : Stand p l e (rO 2 0 0 24) s m #[(.ref a)] below meth c s₁ [] 0 0 := Stand.of_body Bd
 have e0 : s₁.heap = h0 := by rw [← hh, Bd.state]; rfl
 have N0 := Fr.nil n0
 obtain ⟨B_, hB_⟩ : ∃ z, z = s₁.setTop (entryFrame m #[(.ref a)] 1) := ⟨_, rfl⟩
 have k0 : own_K p e below (s₁.setTop (mkF m 0 #[.val (.ref a)] [])) B_ := by rw [hB_]; exact fun t k => castTop (by clear k; first | (simp [entryFrame, mkF, argsToLocals, Value.category, maxLocals]; done) | rfl) k
 have k1 : own_J p e below s₁ m 1 #[.val (.ref a)] [(.ref a)] B_ := fun t_ hh => k0 t_ (by
  refine XS.aloadN X0.here hx rfl (hb hby own_h151) rfl rfl ?_
  exact hh)
 obtain ⟨_, _, ⟨T21, L22, k_23, n_24⟩, -, X25, ⟨Lc26, hQ27, l_28, y_29, z_30⟩, st31⟩ := X0.specialBack hx (y := (⟨"java/util/AbstractCollection", "<init>", "()V"⟩ : MethodName)) rfl hown (mvT hZ (wT hw 241 rfl)) (mvT hZ (wT hw 40 rfl)) (mvT hZ (wT hw 44 rfl)) (by decide) (backOf (W := 0) (rmAC l Z a0 hw [] a h0 n0 Z0  ) hZ (wT hw 44 rfl) (wT hw 43 rfl) (by decide) (by decide)) (g := (mkF m 1 #[.val (.ref a)] [(.ref a)])) rfl (by rw [hml]; rfl) (Steps.refl _) (a := a) (argsL := []) (rest := []) (lenOf own_h153 rfl) rfl (by show 2 * 0 + _ ≤ _; exact Nat.le_of_eq rfl) (hb hby own_h152) (fun _ _ => ⟨rfl, e0, own_l rfl, own_l rfl⟩)
 dsimp only [Pt.U, Pt.locs, Pt.cells, Pt.slots] at X25 l_28 y_29 z_30 st31 hQ27
 subst l_28 y_29 z_30
 obtain ⟨rfl, N32, e33⟩ := hQ27
 have N34 := Fr.app N0 N32
 have k2 : own_J p e below T21 m 4 #[.val (.ref a)] [] B_ := fun t_ hh => k1 t_ (st31.trans hh)
 obtain ⟨fs, hr, hrun, hended, hW, hsame⟩ := X25.leave (v := none) (fun _ => rfl)
 refine ⟨_, _, (own_from hB_ (k2 _ (X25.returnOut hx Bd.returns (hb hby own_h154) hr))), hrun, hended, _, _, rfl, ?_, ⟨_, rfl⟩, hW, hsame.mono (own_l rfl) (own_l rfl)⟩
 show Q_rmAIC Z a h0 n0 _ T21.heap _
 rw [e33]
 exact ⟨rfl, N34, rfl⟩
def Q_rmAIL (Z : State) (a : Addr) (h0 : Heap) (n0 : Nat) (v : Option Value) (h : Heap) (L : List Loc) : Prop := v = none ∧ Fr n0 L ∧ h = h0
theorem own_h155 : plainName "java/util/ImmutableCollections$AbstractImmutableList" = true := by first | (simp [plainName, overriddenIn]; done) | decide +kernel
theorem own_h156 : decode jdk_46_method_1_code 0 = .ok (.aload_n 0, 1) := by decide +kernel
theorem own_h157 : decode jdk_46_method_1_code 1 = .ok (.invokespecial 1, 3) := by decide +kernel
theorem own_h158 : decode jdk_46_method_1_code 4 = .ok (.return_, 1) := by decide +kernel
set_option maxRecDepth 65536 in
set_option maxHeartbeats 40000000 in
theorem rmAIL (l : Launch) (Z : State) (a0 : Array Value) (hw : ∀ d ∈ tables_1, d.before a0 Z = true) (ws : List Jvm.Cond) (a : Addr) (h0 : Heap) (n0 : Nat) (Z0 : n0 ≤ h0.size)   :
    own_Met l (⟨"java/util/ImmutableCollections$AbstractImmutableList", "<init>", "()V"⟩ : MethodName) jdk_46_method_1_code 1 none ws (rO 3 0 0 36) #[(.ref a)] Z h0 (Q_rmAIL Z a h0 n0) := by
 refine MetFree.of_bodySF (plainFor_of_name own_h155) hisR ?_
 intro p e s m args below meth c s₁ Bd hml0 hP hK
 obtain ⟨rfl, hZ, hh⟩ := hP
 have hx := Bd.exec
 have hby := Bd.bytes
 have hml : c.maxLocals = 1 := hml0
 have hown : s.vm.findClass "java/util/ImmutableCollections$AbstractImmutableList" = some m.cls := findClass_of_methodNamed Bd.named
 have hnm := (name_of_methodNamed Bd.named Bd.method).1
 have X0 : Stand p l e (rO 3 0 0 36) s m #[(.ref a)] below meth c s₁ [] 0 0 := Stand.of_body Bd
 have e0 : s₁.heap = h0 := by rw [← hh, Bd.state]; rfl
 have N0 := Fr.nil n0
 obtain ⟨B_, hB_⟩ : ∃ z, z = s₁.setTop (entryFrame m #[(.ref a)] 1) := ⟨_, rfl⟩
 have k0 : own_K p e below (s₁.setTop (mkF m 0 #[.val (.ref a)] [])) B_ := by rw [hB_]; exact fun t k => castTop (by clear k; first | (simp [entryFrame, mkF, argsToLocals, Value.category, maxLocals]; done) | rfl) k
 have k1 : own_J p e below s₁ m 1 #[.val (.ref a)] [(.ref a)] B_ := fun t_ hh => k0 t_ (by
  refine XS.aloadN X0.here hx rfl (hb hby own_h156) rfl rfl ?_
  exact hh)
 obtain ⟨_, _, ⟨T21, L22, k_23, n_24⟩, -, X25, ⟨Lc26, hQ27, l_28, y_29, z_30⟩, st31⟩ := X0.specialBack hx (y := (⟨"java/util/ImmutableCollections$AbstractImmutableCollection", "<init>", "()V"⟩ : MethodName)) rfl hown (mvT hZ (wT hw 235 rfl)) (mvT hZ (wT hw 236 rfl)) (mvT hZ (wT hw 240 rfl)) (by decide) (backOf (W := 0) (rmAIC l Z a0 hw [] a h0 n0 Z0  ) hZ (wT hw 240 rfl) (wT hw 239 rfl) (by decide) (by decide)) (g := (mkF m 1 #[.val (.ref a)] [(.ref a)])) rfl (by rw [hml]; rfl) (Steps.refl _) (a := a) (argsL := []) (rest := []) (lenOf own_h153 rfl) rfl (by show 2 * 0 + _ ≤ _; exact Nat.le_of_eq rfl) (hb hby own_h157) (fun _ _ => ⟨rfl, e0, own_l rfl, own_l rfl⟩)
 dsimp only [Pt.U, Pt.locs, Pt.cells, Pt.slots] at X25 l_28 y_29 z_30 st31 hQ27
 subst l_28 y_29 z_30
 obtain ⟨rfl, N32, e33⟩ := hQ27
 have N34 := Fr.app N0 N32
 have k2 : own_J p e below T21 m 4 #[.val (.ref a)] [] B_ := fun t_ hh => k1 t_ (st31.trans hh)
 obtain ⟨fs, hr, hrun, hended, hW, hsame⟩ := X25.leave (v := none) (fun _ => rfl)
 refine ⟨_, _, (own_from hB_ (k2 _ (X25.returnOut hx Bd.returns (hb hby own_h158) hr))), hrun, hended, _, _, rfl, ?_, ⟨_, rfl⟩, hW, hsame.mono (own_l rfl) (own_l rfl)⟩
 show Q_rmAIL Z a h0 n0 _ T21.heap _
 rw [e33]
 exact ⟨rfl, N34, rfl⟩
def Q_rmNu (Z : State) (a : Addr) (h0 : Heap) (n0 : Nat) (v : Option Value) (h : Heap) (L : List Loc) : Prop := v = none ∧ Fr n0 L ∧ h = h0
theorem own_h159 : plainName "java/lang/Number" = true := by first | (simp [plainName, overriddenIn]; done) | decide +kernel
theorem own_h160 : decode jdk_18_method_1_code 0 = .ok (.aload_n 0, 1) := by decide +kernel
theorem own_h161 : decode jdk_18_method_1_code 1 = .ok (.invokespecial 1, 3) := by decide +kernel
theorem own_h162 : decode jdk_18_method_1_code 4 = .ok (.return_, 1) := by decide +kernel
set_option maxRecDepth 65536 in
set_option maxHeartbeats 40000000 in
theorem rmNu (l : Launch) (Z : State) (a0 : Array Value) (hw : ∀ d ∈ tables_1, d.before a0 Z = true) (ws : List Jvm.Cond) (a : Addr) (h0 : Heap) (n0 : Nat) (Z0 : n0 ≤ h0.size)   :
    own_Met l (⟨"java/lang/Number", "<init>", "()V"⟩ : MethodName) jdk_18_method_1_code 1 none ws (rO 1 0 0 12) #[(.ref a)] Z h0 (Q_rmNu Z a h0 n0) := by
 refine MetFree.of_bodySF (plainFor_of_name own_h159) hisR ?_
 intro p e s m args below meth c s₁ Bd hml0 hP hK
 obtain ⟨rfl, hZ, hh⟩ := hP
 have hx := Bd.exec
 have hby := Bd.bytes
 have hml : c.maxLocals = 1 := hml0
 have hown : s.vm.findClass "java/lang/Number" = some m.cls := findClass_of_methodNamed Bd.named
 have hnm := (name_of_methodNamed Bd.named Bd.method).1
 have X0 : Stand p l e (rO 1 0 0 12) s m #[(.ref a)] below meth c s₁ [] 0 0 := Stand.of_body Bd
 have e0 : s₁.heap = h0 := by rw [← hh, Bd.state]; rfl
 have N0 := Fr.nil n0
 obtain ⟨B_, hB_⟩ : ∃ z, z = s₁.setTop (entryFrame m #[(.ref a)] 1) := ⟨_, rfl⟩
 have k0 : own_K p e below (s₁.setTop (mkF m 0 #[.val (.ref a)] [])) B_ := by rw [hB_]; exact fun t k => castTop (by clear k; first | (simp [entryFrame, mkF, argsToLocals, Value.category, maxLocals]; done) | rfl) k
 have k1 : own_J p e below s₁ m 1 #[.val (.ref a)] [(.ref a)] B_ := fun t_ hh => k0 t_ (by
  refine XS.aloadN X0.here hx rfl (hb hby own_h160) rfl rfl ?_
  exact hh)
 obtain ⟨T21, X22, e23, st24⟩ := initO X0 hx hZ hown (wT hw 102 rfl) (wT hw 17 rfl) (wT hw 18 rfl) e0 (g := (mkF m 1 #[.val (.ref a)] [(.ref a)])) rfl (by rw [hml]; rfl) rfl (hb hby own_h161) (by decide) (W := 0) (by show 2 * 0 + _ ≤ _; exact Nat.le_of_eq rfl) (by decide)
 have k2 : own_J p e below T21 m 4 #[.val (.ref a)] [] B_ := fun t_ hh => k1 t_ (st24 t_ hh)
 obtain ⟨fs, hr, hrun, hended, hW, hsame⟩ := X22.leave (v := none) (fun _ => rfl)
 refine ⟨_, _, (own_from hB_ (k2 _ (X22.returnOut hx Bd.returns (hb hby own_h162) hr))), hrun, hended, _, _, rfl, ?_, ⟨_, rfl⟩, hW, hsame.mono (own_l rfl) (own_l rfl)⟩
 show Q_rmNu Z a h0 n0 _ T21.heap _
 rw [e23]
 exact ⟨rfl, N0, rfl⟩
def Q_rmDi (Z : State) (a : Addr) (dv : UInt64) (h0 : Heap) (n0 : Nat) (v : Option Value) (h : Heap) (L : List Loc) : Prop := v = none ∧ Fr n0 L ∧ Keep h0 h [a] ∧ Exa Z h a "java/lang/Double" ∧ Fld Z h a "java/lang/Double" "value" "D" (.double dv) ∧ True
theorem own_h163 : plainName "java/lang/Double" = true := by first | (simp [plainName, overriddenIn]; done) | decide +kernel
theorem own_h164 : decode jdk_117_method_9_code 0 = .ok (.aload_n 0, 1) := by decide +kernel
theorem own_h165 : decode jdk_117_method_9_code 1 = .ok (.invokespecial 113, 3) := by decide +kernel
theorem own_h166 : decode jdk_117_method_9_code 4 = .ok (.aload_n 0, 1) := by decide +kernel
theorem own_h167 : decode jdk_117_method_9_code 5 = .ok (.dload_n 1, 1) := by decide +kernel
theorem own_h168 : decode jdk_117_method_9_code 6 = .ok (.putfield 118, 3) := by decide +kernel
theorem own_h169 : decode jdk_117_method_9_code 9 = .ok (.return_, 1) := by decide +kernel
set_option maxRecDepth 65536 in
set_option maxHeartbeats 40000000 in
theorem rmDi (l : Launch) (Z : State) (a0 : Array Value) (hw : ∀ d ∈ tables_1, d.before a0 Z = true) (ws : List Jvm.Cond) (a : Addr) (dv : UInt64) (h0 : Heap) (n0 : Nat) (Z0 : n0 ≤ h0.size) (f0_ : Exa Z h0 a "java/lang/Double") (f1_ : Fld Z h0 a "java/lang/Double" "value" "D" (.double (0 : UInt64))) (f2_ : n0 ≤ a)  :
    own_Met l (⟨"java/lang/Double", "<init>", "(D)V"⟩ : MethodName) jdk_117_method_9_code 3 none ws (rO 2 0 0 24) #[(.ref a), (.double dv)] Z h0 (Q_rmDi Z a dv h0 n0) := by
 refine MetFree.of_bodySF (plainFor_of_name own_h163) hisR ?_
 intro p e s m args below meth c s₁ Bd hml0 hP hK
 obtain ⟨rfl, hZ, hh⟩ := hP
 have hx := Bd.exec
 have hby := Bd.bytes
 have hml : c.maxLocals = 3 := hml0
 have hown : s.vm.findClass "java/lang/Double" = some m.cls := findClass_of_methodNamed Bd.named
 have hnm := (name_of_methodNamed Bd.named Bd.method).1
 have X0 : Stand p l e (rO 2 0 0 24) s m #[(.ref a), (.double dv)] below meth c s₁ [] 0 0 := Stand.of_body Bd
 have e0 : s₁.heap = h0 := by rw [← hh, Bd.state]; rfl
 have N0 := Fr.nil n0
 obtain ⟨B_, hB_⟩ : ∃ z, z = s₁.setTop (entryFrame m #[(.ref a), (.double dv)] 3) := ⟨_, rfl⟩
 have k0 : own_K p e below (s₁.setTop (mkF m 0 #[.val (.ref a), .val (.double dv), .second] [])) B_ := by rw [hB_]; exact fun t k => castTop (by clear k; first | (simp [entryFrame, mkF, argsToLocals, Value.category, maxLocals]; done) | rfl) k
 have K0 : Keep h0 h0 [a] := Keep.refl _ _
 have k1 : own_J p e below s₁ m 1 #[.val (.ref a), .val (.double dv), .second] [(.ref a)] B_ := fun t_ hh => k0 t_ (by
  refine XS.aloadN X0.here hx rfl (hb hby own_h164) rfl rfl ?_
  exact hh)
 obtain ⟨_, _, ⟨T21, L22, k_23, n_24⟩, -, X25, ⟨Lc26, hQ27, l_28, y_29, z_30⟩, st31⟩ := X0.specialBack hx (y := (⟨"java/lang/Number", "<init>", "()V"⟩ : MethodName)) rfl hown (mvT hZ (wT hw 96 rfl)) (mvT hZ (wT hw 97 rfl)) (mvT hZ (wT hw 101 rfl)) (by decide) (backOf (W := 0) (rmNu l Z a0 hw [] a h0 n0 Z0  ) hZ (wT hw 101 rfl) (wT hw 100 rfl) (by decide) (by decide)) (g := (mkF m 1 #[.val (.ref a), .val (.double dv), .second] [(.ref a)])) rfl (by rw [hml]; rfl) (Steps.refl _) (a := a) (argsL := []) (rest := []) (lenOf own_h153 rfl) rfl (by show 2 * 0 + _ ≤ _; exact Nat.le_of_eq rfl) (hb hby own_h165) (fun _ _ => ⟨rfl, e0, own_l rfl, own_l rfl⟩)
 dsimp only [Pt.U, Pt.locs, Pt.cells, Pt.slots] at X25 l_28 y_29 z_30 st31 hQ27
 subst l_28 y_29 z_30
 obtain ⟨rfl, N32, e33⟩ := hQ27
 have N34 := Fr.app N0 N32
 have k2 : own_J p e below T21 m 4 #[.val (.ref a), .val (.double dv), .second] [] B_ := fun t_ hh => k1 t_ (st31.trans hh)
 have k3 : own_J p e below T21 m 6 #[.val (.ref a), .val (.double dv), .second] [(.double dv), (.ref a)] B_ := fun t_ hh => k2 t_ (by
  refine XS.aloadN X25.here hx rfl (hb hby own_h166) rfl rfl ?_
  refine XS.dloadN X25.here hx rfl (hb hby own_h167) rfl ?_
  exact hh)
 obtain ⟨T35, h36, X37, e38, W39, st40⟩ := putF X25 hx hZ hown (host := "") (Or.inl (wT hw 103 rfl)) Via.refl e33 f1_ f0_ (Or.inr ⟨(wT hw 104 rfl), rfl, hnm⟩) (wT hw 91 rfl) (ty := .double) (by decide) rfl rfl (g := (mkF m 6 #[.val (.ref a), .val (.double dv), .second] [(.double dv), (.ref a)])) rfl rfl (hb hby own_h168)
 have N41 := Fr.snoc X37 N34 f2_
 have F42 := Exa.wr W39 f0_
 have F43 : Fld Z h36 a "java/lang/Double" "value" "D" (.double dv) := Fld.same W39 f1_
 have Z44 : n0 ≤ h36.size := W39.size ▸ Z0
 have P45 : Keep h0 h36 [a] := K0.wr W39 (Or.inl (List.mem_of_getElem? (i := 0) rfl))
 have k4 : own_J p e below T35 m 9 #[.val (.ref a), .val (.double dv), .second] [] B_ := fun t_ hh => k3 t_ (st40 t_ hh)
 obtain ⟨fs, hr, hrun, hended, hW, hsame⟩ := X37.leave (v := none) (fun _ => rfl)
 refine ⟨_, _, (own_from hB_ (k4 _ (X37.returnOut hx Bd.returns (hb hby own_h169) hr))), hrun, hended, _, _, rfl, ?_, ⟨_, rfl⟩, hW, hsame.mono (own_l rfl) (own_l rfl)⟩
 show Q_rmDi Z a dv h0 n0 _ T35.heap _
 rw [e38]
 exact ⟨rfl, N41, P45, F42, F43, trivial⟩
def Q_rmDv (Z : State) (dv : UInt64) (h0 : Heap) (n0 : Nat) (v : Option Value) (h : Heap) (L : List Loc) : Prop := ∃ r : Addr, v = some (.ref r) ∧ Fr n0 L ∧ Keep h0 h [] ∧ Exa Z h r "java/lang/Double" ∧ Fld Z h r "java/lang/Double" "value" "D" (.double dv) ∧ n0 ≤ r ∧ h0.size ≤ r ∧ True
theorem own_h170 : decode jdk_117_method_4_code 0 = .ok (.new 1, 3) := by decide +kernel
theorem own_h171 : decode jdk_117_method_4_code 3 = .ok (.dup, 1) := by decide +kernel
theorem own_h172 : decode jdk_117_method_4_code 4 = .ok (.dload_n 0, 1) := by decide +kernel
theorem own_h173 : decode jdk_117_method_4_code 5 = .ok (.invokespecial 105, 3) := by decide +kernel
theorem own_h174 : parseMethodDescriptor "(D)V" = some ⟨[.double], none⟩ := by decide +kernel
theorem own_h175 : decode jdk_117_method_4_code 8 = .ok (.areturn, 1) := by decide +kernel
set_option maxRecDepth 65536 in
set_option maxHeartbeats 40000000 in
theorem rmDv (l : Launch) (Z : State) (a0 : Array Value) (hw : ∀ d ∈ tables_1, d.before a0 Z = true) (ws : List Jvm.Cond) (dv : UInt64) (h0 : Heap) (n0 : Nat) (Z0 : n0 ≤ h0.size)   :
    own_Met l (⟨"java/lang/Double", "valueOf", "(D)Ljava/lang/Double;"⟩ : MethodName) jdk_117_method_4_code 2 (some (.object "java/lang/Double")) ws (rO 3 1 1 39) #[(.double dv)] Z h0 (Q_rmDv Z dv h0 n0) := by
 refine MetFree.of_bodySF (plainFor_of_name own_h163) hisR ?_
 intro p e s m args below meth c s₁ Bd hml0 hP hK
 obtain ⟨rfl, hZ, hh⟩ := hP
 have hx := Bd.exec
 have hby := Bd.bytes
 have hml : c.maxLocals = 2 := hml0
 have hown : s.vm.findClass "java/lang/Double" = some m.cls := findClass_of_methodNamed Bd.named
 have hnm := (name_of_methodNamed Bd.named Bd.method).1
 have X0 : Stand p l e (rO 3 1 1 39) s m #[(.double dv)] below meth c s₁ [] 0 0 := Stand.of_body Bd
 have e0 : s₁.heap = h0 := by rw [← hh, Bd.state]; rfl
 have N0 := Fr.nil n0
 obtain ⟨B_, hB_⟩ : ∃ z, z = s₁.setTop (entryFrame m #[(.double dv)] 2) := ⟨_, rfl⟩
 have k0 : own_K p e below (s₁.setTop (mkF m 0 #[.val (.double dv), .second] [])) B_ := by rw [hB_]; exact fun t k => castTop (by clear k; first | (simp [entryFrame, mkF, argsToLocals, Value.category, maxLocals]; done) | rfl) k
 have K0 : Keep h0 h0 [] := Keep.refl _ _
 obtain ⟨T21, h22, X23, e24, E25, A26, D27, U29, st28⟩ := newO X0 hx hZ hown (wT hw 90 rfl) (wT hw 91 rfl) (wT hw 88 rfl) e0 (g := (mkF m 0 #[.val (.double dv), .second] [])) rfl (hb hby own_h170) (by decide) (by decide)
 obtain ⟨a30, g31⟩ : ∃ z, z = h0.size := ⟨_, rfl⟩
 rw [← g31] at A26 D27 U29 st28
 have H032 : h0.size ≤ a30 := Nat.le_trans K0.1 (Nat.le_of_eq g31.symm)
 have G33 : n0 ≤ a30 := Nat.le_trans Z0 (Nat.le_of_eq g31.symm)
 have Z34 : n0 ≤ h22.size := Nat.le_trans Z0 E25.1
 have P35 : Keep h0 h22 [] := K0.ext E25
 have F36 : Fld Z h22 a30 "java/lang/Double" "value" "D" (.double (0 : UInt64)) := D27 (Or.inr (wT hw 104 rfl)) (ty := .double) (by decide)
 have k1 : own_J p e below T21 m 3 #[.val (.double dv), .second] [(.ref a30)] B_ := fun t_ hh => k0 t_ (st28 t_ hh)
 have k2 : own_J p e below T21 m 5 #[.val (.double dv), .second] [(.double dv), (.ref a30), (.ref a30)] B_ := fun t_ hh => k1 t_ (by
  refine XS.dup X23.here hx rfl (hb hby own_h171) rfl rfl ?_
  refine XS.dloadN X23.here hx rfl (hb hby own_h172) rfl ?_
  exact hh)
 obtain ⟨_, _, ⟨T37, L38, k_39, n_40⟩, -, X41, ⟨Lc42, hQ43, l_44, y_45, z_46⟩, st47⟩ := X23.specialBack hx (y := (⟨"java/lang/Double", "<init>", "(D)V"⟩ : MethodName)) rfl hown (mvT hZ (wT hw 92 rfl)) (mvT hZ (wT hw 93 rfl)) (mvT hZ (wT hw 95 rfl)) (by decide) (backOf (W := 1) (rmDi l Z a0 hw [] a30 dv h22 n0 Z34 A26 F36 G33 ) hZ (wT hw 95 rfl) (wT hw 88 rfl) (by decide) (by decide)) (g := (mkF m 5 #[.val (.double dv), .second] [(.double dv), (.ref a30), (.ref a30)])) rfl (by rw [hml]; rfl) (Steps.refl _) (a := a30) (argsL := [(.double dv)]) (rest := [(.ref a30)]) (lenOf own_h174 rfl) rfl (by show 2 * 0 + _ ≤ _; exact Nat.le_of_eq rfl) (hb hby own_h173) (fun _ _ => ⟨rfl, e24, own_l rfl, own_l rfl⟩)
 dsimp only [Pt.U, Pt.locs, Pt.cells, Pt.slots] at X41 l_44 y_45 z_46 st47 hQ43
 subst l_44 y_45 z_46
 obtain ⟨rfl, N48, K51, F49, F50, -⟩ := hQ43
 have N52 := Fr.app N0 N48
 have F53 := A26.keep K51
 have Z54 : n0 ≤ T37.heap.size := Nat.le_trans Z34 K51.1
 have P55 : Keep h0 T37.heap [] := P35.trans K51 (allS (P := fun x => x ∈ [] ∨ h0.size ≤ x) (Or.inr H032) all0)
 have e56 : T37.heap = T37.heap := rfl
 have k3 : own_J p e below T37 m 8 #[.val (.double dv), .second] [(.ref a30)] B_ := fun t_ hh => k2 t_ (st47.trans hh)
 obtain ⟨fs, hr, hrun, hended, hW, hsame⟩ := X41.leave (v := some (.ref a30)) (fun h => by rw [Bd.returns] at h; cases h)
 refine ⟨_, _, (own_from hB_ (k3 _ (retOut X41 hx (t := .object "java/lang/Double") Bd.returns rfl (Or.inr (Or.inr (Or.inr (Or.inr ⟨rfl, rfl, rfl⟩)))) (hb hby own_h175) hr))), hrun, hended, _, _, rfl, ?_, ⟨_, rfl⟩, hW, hsame.mono (own_l rfl) (own_l rfl)⟩
 show Q_rmDv Z dv h0 n0 _ T37.heap _
 rw [e56]
 exact ⟨a30, rfl, N52, P55, F49, F50, G33, H032, trivial⟩
def Q_rmDd (Z : State) (a : Addr) (dv : UInt64) (h0 : Heap) (n0 : Nat) (v : Option Value) (h : Heap) (L : List Loc) : Prop := v = some (.double dv) ∧ Fr n0 L ∧ h = h0
theorem own_h176 : decode jdk_117_method_19_code 0 = .ok (.aload_n 0, 1) := by decide +kernel
theorem own_h177 : decode jdk_117_method_19_code 1 = .ok (.getfield 118, 3) := by decide +kernel
theorem own_h178 : decode jdk_117_method_19_code 4 = .ok (.dreturn, 1) := by decide +kernel
set_option maxRecDepth 65536 in
set_option maxHeartbeats 40000000 in
theorem rmDd (l : Launch) (Z : State) (a0 : Array Value) (hw : ∀ d ∈ tables_1, d.before a0 Z = true) (ws : List Jvm.Cond) (a : Addr) (dv : UInt64) (h0 : Heap) (n0 : Nat) (Z0 : n0 ≤ h0.size) (f0_ : Fld Z h0 a "java/lang/Double" "value" "D" (.double dv))  :
    own_Met l (⟨"java/lang/Double", "doubleValue", "()D"⟩ : MethodName) jdk_117_method_19_code 1 (some .double) ws (rO 0 0 0 0) #[(.ref a)] Z h0 (Q_rmDd Z a dv h0 n0) := by
 refine MetFree.of_bodySF (plainFor_of_name own_h163) hisR ?_
 intro p e s m args below meth c s₁ Bd hml0 hP hK
 obtain ⟨rfl, hZ, hh⟩ := hP
 have hx := Bd.exec
 have hby := Bd.bytes
 have hml : c.maxLocals = 1 := hml0
 have hown : s.vm.findClass "java/lang/Double" = some m.cls := findClass_of_methodNamed Bd.named
 have hnm := (name_of_methodNamed Bd.named Bd.method).1
 have X0 : Stand p l e (rO 0 0 0 0) s m #[(.ref a)] below meth c s₁ [] 0 0 := Stand.of_body Bd
 have e0 : s₁.heap = h0 := by rw [← hh, Bd.state]; rfl
 have N0 := Fr.nil n0
 obtain ⟨B_, hB_⟩ : ∃ z, z = s₁.setTop (entryFrame m #[(.ref a)] 1) := ⟨_, rfl⟩
 have k0 : own_K p e below (s₁.setTop (mkF m 0 #[.val (.ref a)] [])) B_ := by rw [hB_]; exact fun t k => castTop (by clear k; first | (simp [entryFrame, mkF, argsToLocals, Value.category, maxLocals]; done) | rfl) k
 have k1 : own_J p e below s₁ m 1 #[.val (.ref a)] [(.ref a)] B_ := fun t_ hh => k0 t_ (by
  refine XS.aloadN X0.here hx rfl (hb hby own_h176) rfl rfl ?_
  exact hh)
 obtain ⟨T21, X22, e23, st24⟩ := getF X0 hx hZ hown (host := "") (Or.inl (wT hw 103 rfl)) Via.refl e0 f0_ (g := (mkF m 1 #[.val (.ref a)] [(.ref a)])) rfl rfl (hb hby own_h177)
 have k2 : own_J p e below T21 m 4 #[.val (.ref a)] [(.double dv)] B_ := fun t_ hh => k1 t_ (st24 t_ hh)
 obtain ⟨fs, hr, hrun, hended, hW, hsame⟩ := X22.leave (v := some (.double dv)) (fun h => by rw [Bd.returns] at h; cases h)
 refine ⟨_, _, (own_from hB_ (k2 _ (retOut X22 hx (t := .double) Bd.returns rfl (Or.inr (Or.inr (Or.inl ⟨rfl, rfl, _, rfl⟩))) (hb hby own_h178) hr))), hrun, hended, _, _, rfl, ?_, ⟨_, rfl⟩, hW, hsame.mono (own_l rfl) (own_l rfl)⟩
 show Q_rmDd Z a dv h0 n0 _ T21.heap _
 rw [e23]
 exact ⟨rfl, N0, rfl⟩
def Q_rmAbl (Z : State) (a : Addr) (h0 : Heap) (n0 : Nat) (v : Option Value) (h : Heap) (L : List Loc) : Prop := v = none ∧ Fr n0 L ∧ Keep h0 h [a] ∧ Exa Z h a "java/util/ArrayList" ∧ Fld Z h a "java/util/AbstractList" "modCount" "I" (.int (0 : Int32)) ∧ Fld Z h a "java/util/ArrayList" "elementData" "[Ljava/lang/Object;" .null ∧ Fld Z h a "java/util/ArrayList" "size" "I" (.int (0 : Int32)) ∧ True
theorem own_h179 : plainName "java/util/AbstractList" = true := by first | (simp [plainName, overriddenIn]; done) | decide +kernel
theorem own_h180 : decode jdk_39_method_1_code 0 = .ok (.aload_n 0, 1) := by decide +kernel
theorem own_h181 : decode jdk_39_method_1_code 1 = .ok (.invokespecial 1, 3) := by decide +kernel
theorem own_h182 : decode jdk_39_method_1_code 4 = .ok (.aload_n 0, 1) := by decide +kernel
theorem own_h183 : decode jdk_39_method_1_code 5 = .ok (.iconst 0, 1) := by decide +kernel
theorem own_h184 : decode jdk_39_method_1_code 6 = .ok (.putfield 7, 3) := by decide +kernel
theorem own_h185 : decode jdk_39_method_1_code 9 = .ok (.return_, 1) := by decide +kernel
set_option maxRecDepth 65536 in
set_option maxHeartbeats 40000000 in
theorem rmAbl (l : Launch) (Z : State) (a0 : Array Value) (hw : ∀ d ∈ tables_1, d.before a0 Z = true) (ws : List Jvm.Cond) (a : Addr) (h0 : Heap) (n0 : Nat) (Z0 : n0 ≤ h0.size) (f0_ : Exa Z h0 a "java/util/ArrayList") (f1_ : Fld Z h0 a "java/util/AbstractList" "modCount" "I" (.int (0 : Int32))) (f2_ : Fld Z h0 a "java/util/ArrayList" "elementData" "[Ljava/lang/Object;" .null) (f3_ : Fld Z h0 a "java/util/ArrayList" "size" "I" (.int (0 : Int32))) (f4_ : n0 ≤ a)  :
    own_Met l (⟨"java/util/AbstractList", "<init>", "()V"⟩ : MethodName) jdk_39_method_1_code 1 none ws (rO 2 0 0 24) #[(.ref a)] Z h0 (Q_rmAbl Z a h0 n0) := by
 refine MetFree.of_bodySF (plainFor_of_name own_h179) hisR ?_
 intro p e s m args below meth c s₁ Bd hml0 hP hK
 obtain ⟨rfl, hZ, hh⟩ := hP
 have hx := Bd.exec
 have hby := Bd.bytes
 have hml : c.maxLocals = 1 := hml0
 have hown : s.vm.findClass "java/util/AbstractList" = some m.cls := findClass_of_methodNamed Bd.named
 have hnm := (name_of_methodNamed Bd.named Bd.method).1
 have X0 : Stand p l e (rO 2 0 0 24) s m #[(.ref a)] below meth c s₁ [] 0 0 := Stand.of_body Bd
 have e0 : s₁.heap = h0 := by rw [← hh, Bd.state]; rfl
 have N0 := Fr.nil n0
 obtain ⟨B_, hB_⟩ : ∃ z, z = s₁.setTop (entryFrame m #[(.ref a)] 1) := ⟨_, rfl⟩
 have k0 : own_K p e below (s₁.setTop (mkF m 0 #[.val (.ref a)] [])) B_ := by rw [hB_]; exact fun t k => castTop (by clear k; first | (simp [entryFrame, mkF, argsToLocals, Value.category, maxLocals]; done) | rfl) k
 have K0 : Keep h0 h0 [a] := Keep.refl _ _
 have k1 : own_J p e below s₁ m 1 #[.val (.ref a)] [(.ref a)] B_ := fun t_ hh => k0 t_ (by
  refine XS.aloadN X0.here hx rfl (hb hby own_h180) rfl rfl ?_
  exact hh)
 obtain ⟨_, _, ⟨T21, L22, k_23, n_24⟩, -, X25, ⟨Lc26, hQ27, l_28, y_29, z_30⟩, st31⟩ := X0.specialBack hx (y := (⟨"java/util/AbstractCollection", "<init>", "()V"⟩ : MethodName)) rfl hown (mvT hZ (wT hw 39 rfl)) (mvT hZ (wT hw 40 rfl)) (mvT hZ (wT hw 44 rfl)) (by decide) (backOf (W := 0) (rmAC l Z a0 hw [] a h0 n0 Z0  ) hZ (wT hw 44 rfl) (wT hw 43 rfl) (by decide) (by decide)) (g := (mkF m 1 #[.val (.ref a)] [(.ref a)])) rfl (by rw [hml]; rfl) (Steps.refl _) (a := a) (argsL := []) (rest := []) (lenOf own_h153 rfl) rfl (by show 2 * 0 + _ ≤ _; exact Nat.le_of_eq rfl) (hb hby own_h181) (fun _ _ => ⟨rfl, e0, own_l rfl, own_l rfl⟩)
 dsimp only [Pt.U, Pt.locs, Pt.cells, Pt.slots] at X25 l_28 y_29 z_30 st31 hQ27
 subst l_28 y_29 z_30
 obtain ⟨rfl, N32, e33⟩ := hQ27
 have N34 := Fr.app N0 N32
 have k2 : own_J p e below T21 m 4 #[.val (.ref a)] [] B_ := fun t_ hh => k1 t_ (st31.trans hh)
 have k3 : own_J p e below T21 m 6 #[.val (.ref a)] [(.int (0 : Int32)), (.ref a)] B_ := fun t_ hh => k2 t_ (by
  refine XS.aloadN X25.here hx rfl (hb hby own_h182) rfl rfl ?_
  refine XS.iconst X25.here hx rfl (hb hby own_h183) ?_
  exact hh)
 obtain ⟨T35, h36, X37, e38, W39, st40⟩ := putF X25 hx hZ hown (host := "") (Or.inl (wT hw 46 rfl)) Via.refl e33 f1_ f0_ (Or.inl (wT hw 47 rfl)) (wT hw 28 rfl) (ty := .int) (by decide) rfl rfl (g := (mkF m 6 #[.val (.ref a)] [(.int (0 : Int32)), (.ref a)])) rfl rfl (hb hby own_h184)
 have N41 := Fr.snoc X37 N34 f4_
 have F42 := Exa.wr W39 f0_
 have F43 : Fld Z h36 a "java/util/AbstractList" "modCount" "I" (.int (0 : Int32)) := Fld.same W39 f1_
 have F44 := Fld.other W39 f2_ (Or.inr (slot_ne (Or.inl (wT hw 50 rfl)) (Or.inl (wT hw 47 rfl)) (by decide) (t := (.array (.object "java/lang/Object"))) (t' := .int) (by decide) (by decide)))
 have F45 := Fld.other W39 f3_ (Or.inr (slot_ne (Or.inl (wT hw 63 rfl)) (Or.inl (wT hw 47 rfl)) (by decide) (t := .int) (t' := .int) (by decide) (by decide)))
 have Z46 : n0 ≤ h36.size := W39.size ▸ Z0
 have P47 : Keep h0 h36 [a] := K0.wr W39 (Or.inl (List.mem_of_getElem? (i := 0) rfl))
 have k4 : own_J p e below T35 m 9 #[.val (.ref a)] [] B_ := fun t_ hh => k3 t_ (st40 t_ hh)
 obtain ⟨fs, hr, hrun, hended, hW, hsame⟩ := X37.leave (v := none) (fun _ => rfl)
 refine ⟨_, _, (own_from hB_ (k4 _ (X37.returnOut hx Bd.returns (hb hby own_h185) hr))), hrun, hended, _, _, rfl, ?_, ⟨_, rfl⟩, hW, hsame.mono (own_l rfl) (own_l rfl)⟩
 show Q_rmAbl Z a h0 n0 _ T35.heap _
 rw [e38]
 exact ⟨rfl, N41, P47, F42, F43, F44, F45, trivial⟩
def Q_rmAli (Z : State) (a : Addr) (dz : Addr) (h0 : Heap) (n0 : Nat) (v : Option Value) (h : Heap) (L : List Loc) : Prop := v = none ∧ Fr n0 L ∧ Keep h0 h [a] ∧ Exa Z h a "java/util/ArrayList" ∧ Fld Z h a "java/util/AbstractList" "modCount" "I" (.int (0 : Int32)) ∧ Fld Z h a "java/util/ArrayList" "elementData" "[Ljava/lang/Object;" (.ref dz) ∧ Fld Z h a "java/util/ArrayList" "size" "I" (.int (0 : Int32)) ∧ True
theorem own_h186 : plainName "java/util/ArrayList" = true := by first | (simp [plainName, overriddenIn]; done) | decide +kernel
theorem own_h187 : decode jdk_38_method_2_code 0 = .ok (.aload_n 0, 1) := by decide +kernel
theorem own_h188 : decode jdk_38_method_2_code 1 = .ok (.invokespecial 1, 3) := by decide +kernel
theorem own_h189 : decode jdk_38_method_2_code 4 = .ok (.aload_n 0, 1) := by decide +kernel
theorem own_h190 : decode jdk_38_method_2_code 5 = .ok (.getstatic 39, 3) := by decide +kernel
theorem own_h191 : decode jdk_38_method_2_code 8 = .ok (.putfield 9, 3) := by decide +kernel
theorem own_h192 : decode jdk_38_method_2_code 11 = .ok (.return_, 1) := by decide +kernel
set_option maxRecDepth 65536 in
set_option maxHeartbeats 40000000 in
theorem rmAli (l : Launch) (Z : State) (a0 : Array Value) (hw : ∀ d ∈ tables_1, d.before a0 Z = true) (ws : List Jvm.Cond) (a : Addr) (dz : Addr) (h0 : Heap) (n0 : Nat) (Z0 : n0 ≤ h0.size) (f0_ : Exa Z h0 a "java/util/ArrayList") (f1_ : Fld Z h0 a "java/util/AbstractList" "modCount" "I" (.int (0 : Int32))) (f2_ : Fld Z h0 a "java/util/ArrayList" "elementData" "[Ljava/lang/Object;" .null) (f3_ : Fld Z h0 a "java/util/ArrayList" "size" "I" (.int (0 : Int32))) (f4_ : n0 ≤ a) (f5_ : Old Z n0 h0) (kz : ClassId) (sD : Sta Z Z.heap "java/util/ArrayList" "DEFAULTCAPACITY_EMPTY_ELEMENTDATA" "[Ljava/lang/Object;" (.ref dz)) (aD : Arv Z Z.heap dz kz (.object "java/lang/Object") (0 : Int32) [] .null) :
    own_Met l (⟨"java/util/ArrayList", "<init>", "()V"⟩ : MethodName) jdk_38_method_2_code 1 none ws (rO 3 0 0 36) #[(.ref a)] Z h0 (Q_rmAli Z a dz h0 n0) := by
 refine MetFree.of_bodySF (plainFor_of_name own_h186) hisR ?_
 intro p e s m args below meth c s₁ Bd hml0 hP hK
 obtain ⟨rfl, hZ, hh⟩ := hP
 have hx := Bd.exec
 have hby := Bd.bytes
 have hml : c.maxLocals = 1 := hml0
 have hown : s.vm.findClass "java/util/ArrayList" = some m.cls := findClass_of_methodNamed Bd.named
 have hnm := (name_of_methodNamed Bd.named Bd.method).1
 have X0 : Stand p l e (rO 3 0 0 36) s m #[(.ref a)] below meth c s₁ [] 0 0 := Stand.of_body Bd
 have e0 : s₁.heap = h0 := by rw [← hh, Bd.state]; rfl
 have N0 := Fr.nil n0
 obtain ⟨B_, hB_⟩ : ∃ z, z = s₁.setTop (entryFrame m #[(.ref a)] 1) := ⟨_, rfl⟩
 have k0 : own_K p e below (s₁.setTop (mkF m 0 #[.val (.ref a)] [])) B_ := by rw [hB_]; exact fun t k => castTop (by clear k; first | (simp [entryFrame, mkF, argsToLocals, Value.category, maxLocals]; done) | rfl) k
 have K0 : Keep h0 h0 [a] := Keep.refl _ _
 have k1 : own_J p e below s₁ m 1 #[.val (.ref a)] [(.ref a)] B_ := fun t_ hh => k0 t_ (by
  refine XS.aloadN X0.here hx rfl (hb hby own_h187) rfl rfl ?_
  exact hh)
 obtain ⟨_, _, ⟨T21, L22, k_23, n_24⟩, -, X25, ⟨Lc26, hQ27, l_28, y_29, z_30⟩, st31⟩ := X0.specialBack hx (y := (⟨"java/util/AbstractList", "<init>", "()V"⟩ : MethodName)) rfl hown (mvT hZ (wT hw 33 rfl)) (mvT hZ (wT hw 34 rfl)) (mvT hZ (wT hw 38 rfl)) (by decide) (backOf (W := 0) (rmAbl l Z a0 hw [] a h0 n0 Z0 f0_ f1_ f2_ f3_ f4_ ) hZ (wT hw 38 rfl) (wT hw 37 rfl) (by decide) (by decide)) (g := (mkF m 1 #[.val (.ref a)] [(.ref a)])) rfl (by rw [hml]; rfl) (Steps.refl _) (a := a) (argsL := []) (rest := []) (lenOf own_h153 rfl) rfl (by show 2 * 0 + _ ≤ _; exact Nat.le_of_eq rfl) (hb hby own_h188) (fun _ _ => ⟨rfl, e0, own_l rfl, own_l rfl⟩)
 dsimp only [Pt.U, Pt.locs, Pt.cells, Pt.slots] at X25 l_28 y_29 z_30 st31 hQ27
 subst l_28 y_29 z_30
 obtain ⟨rfl, N32, K37, F33, F34, F35, F36, -⟩ := hQ27
 have N38 := Fr.app N0 N32
 have F39 := f0_.keep K37
 have Z40 : n0 ≤ T21.heap.size := Nat.le_trans Z0 K37.1
 have O41 := f5_.keep K37 (allS f4_ all0)
 have P42 : Keep h0 T21.heap [a] := K0.trans K37 (allS (P := fun x => x ∈ [a] ∨ h0.size ≤ x) (Or.inl (List.mem_of_getElem? (i := 0) rfl)) all0)
 have e43 : T21.heap = T21.heap := rfl
 have k2 : own_J p e below T21 m 4 #[.val (.ref a)] [] B_ := fun t_ hh => k1 t_ (st31.trans hh)
 have k3 : own_J p e below T21 m 5 #[.val (.ref a)] [(.ref a)] B_ := fun t_ hh => k2 t_ (by
  refine XS.aloadN X25.here hx rfl (hb hby own_h189) rfl rfl ?_
  exact hh)
 obtain ⟨T44, X45, e46, st47⟩ := getS X25 hx hZ hown (host := "") (wT hw 48 rfl) Via.refl e43 (Sta.ext O41.2 sD) (g := (mkF m 5 #[.val (.ref a)] [(.ref a)])) rfl (hb hby own_h190)
 have k4 : own_J p e below T44 m 8 #[.val (.ref a)] [(.ref dz), (.ref a)] B_ := fun t_ hh => k3 t_ (st47 t_ hh)
 obtain ⟨T48, h49, X50, e51, W52, st53⟩ := putF X45 hx hZ hown (host := "") (Or.inl (wT hw 49 rfl)) Via.refl e46 F35 F33 (Or.inl (wT hw 50 rfl)) (wT hw 28 rfl) (ty := .array (.object "java/lang/Object")) (by decide) rfl rfl (g := (mkF m 8 #[.val (.ref a)] [(.ref dz), (.ref a)])) rfl rfl (hb hby own_h191)
 have N54 := Fr.snoc X50 N38 f4_
 have F55 := Exa.wr W52 F33
 have F58 := Fld.other W52 F34 (Or.inr (slot_ne (Or.inl (wT hw 47 rfl)) (Or.inl (wT hw 50 rfl)) (by decide) (t := .int) (t' := (.array (.object "java/lang/Object"))) (by decide) (by decide)))
 have F59 : Fld Z h49 a "java/util/ArrayList" "elementData" "[Ljava/lang/Object;" (.ref dz) := Fld.same W52 F35
 have F60 := Fld.other W52 F36 (Or.inr (slot_ne (Or.inl (wT hw 63 rfl)) (Or.inl (wT hw 50 rfl)) (by decide) (t := .int) (t' := (.array (.object "java/lang/Object"))) (by decide) (by decide)))
 have Z61 : n0 ≤ h49.size := W52.size ▸ Z40
 have O62 := O41.wr W52 f4_
 have P63 : Keep h0 h49 [a] := P42.wr W52 (Or.inl (List.mem_of_getElem? (i := 0) rfl))
 have k5 : own_J p e below T48 m 11 #[.val (.ref a)] [] B_ := fun t_ hh => k4 t_ (st53 t_ hh)
 obtain ⟨fs, hr, hrun, hended, hW, hsame⟩ := X50.leave (v := none) (fun _ => rfl)
 refine ⟨_, _, (own_from hB_ (k5 _ (X50.returnOut hx Bd.returns (hb hby own_h192) hr))), hrun, hended, _, _, rfl, ?_, ⟨_, rfl⟩, hW, hsame.mono (own_l rfl) (own_l rfl)⟩
 show Q_rmAli Z a dz h0 n0 _ T48.heap _
 rw [e51]
 exact ⟨rfl, N54, P63, F55, F58, F59, F60, trivial⟩
def Q_rmMax (Z : State)  (h0 : Heap) (n0 : Nat) (v : Option Value) (h : Heap) (L : List Loc) : Prop := v = some (.int (10 : Int32)) ∧ Fr n0 L ∧ h = h0
theorem own_h193 : plainFor (⟨"java/lang/Math", "max", "(II)I"⟩ : MethodName) = true := by decide +kernel
theorem own_h194 : decode jdk_29_method_65_code 0 = .ok (.iload_n 0, 1) := by decide +kernel
theorem own_h195 : decode jdk_29_method_65_code 1 = .ok (.iload_n 1, 1) := by decide +kernel
theorem own_h196 : decode jdk_29_method_65_code 2 = .ok (.if_icmp .lt 7, 3) := by decide +kernel
theorem own_h197 : decode jdk_29_method_65_code 5 = .ok (.iload_n 0, 1) := by decide +kernel
theorem own_h198 : decode jdk_29_method_65_code 6 = .ok (.goto 4, 3) := by decide +kernel
theorem own_h199 : decode jdk_29_method_65_code 10 = .ok (.ireturn, 1) := by decide +kernel
set_option maxRecDepth 65536 in
set_option maxHeartbeats 40000000 in
theorem rmMax (l : Launch) (Z : State) (a0 : Array Value) (hw : ∀ d ∈ tables_1, d.before a0 Z = true) (ws : List Jvm.Cond)  (h0 : Heap) (n0 : Nat) (Z0 : n0 ≤ h0.size)   :
    own_Met l (⟨"java/lang/Math", "max", "(II)I"⟩ : MethodName) jdk_29_method_65_code 2 (some .int) ws (rO 0 0 0 0) #[(.int (10 : Int32)), (.int (1 : Int32))] Z h0 (Q_rmMax Z  h0 n0) := by
 refine MetFree.of_bodySF own_h193 hisR ?_
 intro p e s m args below meth c s₁ Bd hml0 hP hK
 obtain ⟨rfl, hZ, hh⟩ := hP
 have hx := Bd.exec
 have hby := Bd.bytes
 have hml : c.maxLocals = 2 := hml0
 have hown : s.vm.findClass "java/lang/Math" = some m.cls := findClass_of_methodNamed Bd.named
 have hnm := (name_of_methodNamed Bd.named Bd.method).1
 have X0 : Stand p l e (rO 0 0 0 0) s m #[(.int (10 : Int32)), (.int (1 : Int32))] below meth c s₁ [] 0 0 := Stand.of_body Bd
 have e0 : s₁.heap = h0 := by rw [← hh, Bd.state]; rfl
 have N0 := Fr.nil n0
 obtain ⟨B_, hB_⟩ : ∃ z, z = s₁.setTop (entryFrame m #[(.int (10 : Int32)), (.int (1 : Int32))] 2) := ⟨_, rfl⟩
 have k0 : own_K p e below (s₁.setTop (mkF m 0 #[.val (.int (10 : Int32)), .val (.int (1 : Int32))] [])) B_ := by rw [hB_]; exact fun t k => castTop (by clear k; first | (simp [entryFrame, mkF, argsToLocals, Value.category, maxLocals]; done) | rfl) k
 have k1 : own_J p e below s₁ m 10 #[.val (.int (10 : Int32)), .val (.int (1 : Int32))] [(.int (10 : Int32))] B_ := fun t_ hh => k0 t_ (by
  refine XS.iloadN X0.here hx rfl (hb hby own_h194) rfl ?_
  refine XS.iloadN X0.here hx rfl (hb hby own_h195) rfl ?_
  refine XS.icmpNo X0.here hx rfl (hb hby own_h196) rfl (by decide) ?_
  refine XS.iloadN X0.here hx rfl (hb hby own_h197) rfl ?_
  refine XS.goto X0.here hx rfl (pc0 := 6) (pc' := 10) rfl (hb hby own_h198) (by decide) (by decide) ?_
  exact hh)
 obtain ⟨fs, hr, hrun, hended, hW, hsame⟩ := X0.leave (v := some (.int (10 : Int32))) (fun h => by rw [Bd.returns] at h; cases h)
 refine ⟨_, _, (own_from hB_ (k1 _ (retOut X0 hx (t := .int) Bd.returns rfl (Or.inl ⟨rfl, (by simp), _, rfl⟩) (hb hby own_h199) hr))), hrun, hended, _, _, rfl, ?_, ⟨_, rfl⟩, hW, hsame.mono (own_l rfl) (own_l rfl)⟩
 show Q_rmMax Z  h0 n0 _ s₁.heap _
 rw [e0]
 exact ⟨rfl, N0, rfl⟩
def Q_rmGi (Z : State) (a : Addr) (mc : Int32) (dz : Addr) (h0 : Heap) (n0 : Nat) (v : Option Value) (h : Heap) (L : List Loc) : Prop := ∃ r : Addr, ∃ kr : ClassId, v = some (.ref r) ∧ Fr n0 L ∧ Keep h0 h [a] ∧ Exa Z h a "java/util/ArrayList" ∧ Fld Z h a "java/util/AbstractList" "modCount" "I" (.int mc) ∧ Fld Z h a "java/util/ArrayList" "elementData" "[Ljava/lang/Object;" (.ref r) ∧ Fld Z h a "java/util/ArrayList" "size" "I" (.int (0 : Int32)) ∧ Arv Z h r kr (.object "java/lang/Object") (10 : Int32) [.null, .null, .null, .null, .null, .null, .null, .null, .null, .null] .null ∧ Ovr Z kr "java/lang/Object" ∧ n0 ≤ r ∧ h0.size ≤ r ∧ a ≠ r ∧ Exa Z h r "[Ljava/lang/Object;" ∧ True
theorem own_h200 : decode jdk_38_method_6_code 0 = .ok (.aload_n 0, 1) := by decide +kernel
theorem own_h201 : decode jdk_38_method_6_code 1 = .ok (.getfield 9, 3) := by decide +kernel
theorem own_h202 : decode jdk_38_method_6_code 4 = .ok (.arraylength, 1) := by decide +kernel
theorem own_h203 : decode jdk_38_method_6_code 5 = .ok (.istore_n 2, 1) := by decide +kernel
theorem own_h204 : decode jdk_38_method_6_code 6 = .ok (.iload_n 2, 1) := by decide +kernel
theorem own_h205 : decode jdk_38_method_6_code 7 = .ok (.ifCond .gt 13, 3) := by decide +kernel
theorem own_h206 : decode jdk_38_method_6_code 10 = .ok (.aload_n 0, 1) := by decide +kernel
theorem own_h207 : decode jdk_38_method_6_code 11 = .ok (.getfield 9, 3) := by decide +kernel
theorem own_h208 : decode jdk_38_method_6_code 14 = .ok (.getstatic 39, 3) := by decide +kernel
theorem own_h209 : decode jdk_38_method_6_code 17 = .ok (.if_acmp .eq 28, 3) := by decide +kernel
theorem own_h210 : decode jdk_38_method_6_code 45 = .ok (.aload_n 0, 1) := by decide +kernel
theorem own_h211 : decode jdk_38_method_6_code 46 = .ok (.bipush 10, 2) := by decide +kernel
theorem own_h212 : decode jdk_38_method_6_code 48 = .ok (.iload_n 1, 1) := by decide +kernel
theorem own_h213 : decode jdk_38_method_6_code 49 = .ok (.invokestatic 79, 3) := by decide +kernel
theorem own_h214 : parseMethodDescriptor "(II)I" = some ⟨[.int, .int], some .int⟩ := by decide +kernel
theorem own_h215 : decode jdk_38_method_6_code 52 = .ok (.anewarray 7, 3) := by decide +kernel
theorem own_h216 : decode jdk_38_method_6_code 55 = .ok (.dup_x1, 1) := by decide +kernel
theorem own_h217 : decode jdk_38_method_6_code 56 = .ok (.putfield 9, 3) := by decide +kernel
theorem own_h218 : decode jdk_38_method_6_code 59 = .ok (.areturn, 1) := by decide +kernel
set_option maxRecDepth 65536 in
set_option maxHeartbeats 40000000 in
theorem rmGi (l : Launch) (Z : State) (a0 : Array Value) (hw : ∀ d ∈ tables_1, d.before a0 Z = true) (ws : List Jvm.Cond) (a : Addr) (mc : Int32) (dz : Addr) (h0 : Heap) (n0 : Nat) (Z0 : n0 ≤ h0.size) (f0_ : Exa Z h0 a "java/util/ArrayList") (f1_ : Fld Z h0 a "java/util/AbstractList" "modCount" "I" (.int mc)) (f2_ : Fld Z h0 a "java/util/ArrayList" "elementData" "[Ljava/lang/Object;" (.ref dz)) (f3_ : Fld Z h0 a "java/util/ArrayList" "size" "I" (.int (0 : Int32))) (f4_ : n0 ≤ a) (f5_ : Old Z n0 h0) (kz : ClassId) (sD : Sta Z Z.heap "java/util/ArrayList" "DEFAULTCAPACITY_EMPTY_ELEMENTDATA" "[Ljava/lang/Object;" (.ref dz)) (aD : Arv Z Z.heap dz kz (.object "java/lang/Object") (0 : Int32) [] .null) :
    own_Met l (⟨"java/util/ArrayList", "grow", "(I)[Ljava/lang/Object;"⟩ : MethodName) jdk_38_method_6_code 4 (some (.array (.object "java/lang/Object"))) ws (rO 1 1 10 14) #[(.ref a), (.int (1 : Int32))] Z h0 (Q_rmGi Z a mc dz h0 n0) := by
 refine MetFree.of_bodySF (plainFor_of_name own_h186) hisR ?_
 intro p e s m args below meth c s₁ Bd hml0 hP hK
 obtain ⟨rfl, hZ, hh⟩ := hP
 have hx := Bd.exec
 have hby := Bd.bytes
 have hml : c.maxLocals = 4 := hml0
 have hown : s.vm.findClass "java/util/ArrayList" = some m.cls := findClass_of_methodNamed Bd.named
 have hnm := (name_of_methodNamed Bd.named Bd.method).1
 have X0 : Stand p l e (rO 1 1 10 14) s m #[(.ref a), (.int (1 : Int32))] below meth c s₁ [] 0 0 := Stand.of_body Bd
 have e0 : s₁.heap = h0 := by rw [← hh, Bd.state]; rfl
 have N0 := Fr.nil n0
 obtain ⟨B_, hB_⟩ : ∃ z, z = s₁.setTop (entryFrame m #[(.ref a), (.int (1 : Int32))] 4) := ⟨_, rfl⟩
 have k0 : own_K p e below (s₁.setTop (mkF m 0 #[.val (.ref a), .val (.int (1 : Int32)), .unset, .unset] [])) B_ := by rw [hB_]; exact fun t k => castTop (by clear k; first | (simp [entryFrame, mkF, argsToLocals, Value.category, maxLocals]; done) | rfl) k
 have K0 : Keep h0 h0 [a] := Keep.refl _ _
 have k1 : own_J p e below s₁ m 1 #[.val (.ref a), .val (.int (1 : Int32)), .unset, .unset] [(.ref a)] B_ := fun t_ hh => k0 t_ (by
  refine XS.aloadN X0.here hx rfl (hb hby own_h200) rfl rfl ?_
  exact hh)
 obtain ⟨T21, X22, e23, st24⟩ := getF X0 hx hZ hown (host := "") (Or.inl (wT hw 49 rfl)) Via.refl e0 f2_ (g := (mkF m 1 #[.val (.ref a), .val (.int (1 : Int32)), .unset, .unset] [(.ref a)])) rfl rfl (hb hby own_h201)
 have k2 : own_J p e below T21 m 4 #[.val (.ref a), .val (.int (1 : Int32)), .unset, .unset] [(.ref dz)] B_ := fun t_ hh => k1 t_ (st24 t_ hh)
 obtain ⟨cl25, Ar26, -, S27, Ng28, -, -⟩ := id (Arv.ext aD f5_.2)
 have k3 : own_J p e below T21 m 11 #[.val (.ref a), .val (.int (1 : Int32)), .val (.int (0 : Int32)), .unset] [(.ref a)] B_ := fun t_ hh => k2 t_ (by
  refine X22.arraylength hx (by rw [e23]; exact Ar26.1) (State.isArrayOf_alike hZ.alike Ar26.2.1) (g := (mkF m 4 #[.val (.ref a), .val (.int (1 : Int32)), .unset, .unset] [(.ref dz)])) rfl rfl (hb hby own_h202) _ ?_
  rw [len_of S27 Ng28]
  refine XS.istoreN X22.here hx rfl (hb hby own_h203) rfl (l' := #[.val (.ref a), .val (.int (1 : Int32)), .val (.int (0 : Int32)), .unset]) rfl ?_
  refine XS.iloadN X22.here hx rfl (hb hby own_h204) rfl ?_
  refine XS.ifNo X22.here hx rfl (hb hby own_h205) rfl (by decide) ?_
  refine XS.aloadN X22.here hx rfl (hb hby own_h206) rfl rfl ?_
  exact hh)
 obtain ⟨T29, X30, e31, st32⟩ := getF X22 hx hZ hown (host := "") (Or.inl (wT hw 49 rfl)) Via.refl e23 f2_ (g := (mkF m 11 #[.val (.ref a), .val (.int (1 : Int32)), .val (.int (0 : Int32)), .unset] [(.ref a)])) rfl rfl (hb hby own_h207)
 have k4 : own_J p e below T29 m 14 #[.val (.ref a), .val (.int (1 : Int32)), .val (.int (0 : Int32)), .unset] [(.ref dz)] B_ := fun t_ hh => k3 t_ (st32 t_ hh)
 obtain ⟨T33, X34, e35, st36⟩ := getS X30 hx hZ hown (host := "") (wT hw 48 rfl) Via.refl e31 (Sta.ext f5_.2 sD) (g := (mkF m 14 #[.val (.ref a), .val (.int (1 : Int32)), .val (.int (0 : Int32)), .unset] [(.ref dz)])) rfl (hb hby own_h208)
 have k5 : own_J p e below T33 m 17 #[.val (.ref a), .val (.int (1 : Int32)), .val (.int (0 : Int32)), .unset] [(.ref dz), (.ref dz)] B_ := fun t_ hh => k4 t_ (st36 t_ hh)
 have k6 : own_J p e below T33 m 49 #[.val (.ref a), .val (.int (1 : Int32)), .val (.int (0 : Int32)), .unset] [(.int (1 : Int32)), (.int (10 : Int32)), (.ref a)] B_ := fun t_ hh => k5 t_ (by
  refine RoadKit.acmp X34 hx (g := (mkF m 17 #[.val (.ref a), .val (.int (1 : Int32)), .val (.int (0 : Int32)), .unset] [(.ref dz), (.ref dz)])) rfl (x := (.ref dz)) (y := (.ref dz)) rfl rfl (pc0 := 17) (pc' := 45) (same := true) rfl (hb hby own_h209) rfl (by simp) (by decide) (by decide) ?_
  refine XS.aloadN X34.here hx rfl (hb hby own_h210) rfl rfl ?_
  refine XS.bipush X34.here hx rfl (hb hby own_h211) ?_
  refine XS.iloadN X34.here hx rfl (hb hby own_h212) rfl ?_
  exact hh)
 obtain ⟨_, _, ⟨T37, L38, k_39, n_40⟩, -, X41, ⟨Lc42, hQ43, l_44, y_45, z_46⟩, st47⟩ := Jvm.LawKit.callS X34 hx (y := (⟨"java/lang/Math", "max", "(II)I"⟩ : MethodName)) hown (mvT hZ (wT hw 79 rfl)) (mvT hZ (wT hw 80 rfl)) (mvT hZ (wT hw 81 rfl)) (mvT hZ (wT hw 82 rfl)) (by decide) (backOf (W := 1) (rmMax l Z a0 hw []  h0 n0 Z0  ) hZ (wT hw 82 rfl) (wT hw 81 rfl) (by decide) (by decide)) (g := (mkF m 49 #[.val (.ref a), .val (.int (1 : Int32)), .val (.int (0 : Int32)), .unset] [(.int (1 : Int32)), (.int (10 : Int32)), (.ref a)])) rfl (by rw [hml]; rfl) (argsL := [(.int (10 : Int32)), (.int (1 : Int32))]) (rest := [(.ref a)]) (lenOf own_h214 rfl) rfl (by show 2 * 0 + _ ≤ _; exact Nat.le_of_eq rfl) (hb hby own_h213) (fun _ _ => ⟨rfl, e35, own_l rfl, own_l rfl⟩)
 dsimp only [Pt.U, Pt.locs, Pt.cells, Pt.slots] at X41 l_44 y_45 z_46 st47 hQ43
 subst l_44 y_45 z_46
 obtain ⟨rfl, N48, e49⟩ := hQ43
 have N50 := Fr.app N0 N48
 have k7 : own_J p e below T37 m 52 #[.val (.ref a), .val (.int (1 : Int32)), .val (.int (0 : Int32)), .unset] [(.int (10 : Int32)), (.ref a)] B_ := fun t_ hh => k6 t_ (st47 t_ hh)
 obtain ⟨T51, h52, kA53, X54, e55, E56, A57, EA60, O58, st59⟩ := newRE X41 hx hZ hown (wT hw 83 rfl) (wT hw 84 rfl) e49 (g := (mkF m 52 #[.val (.ref a), .val (.int (1 : Int32)), .val (.int (0 : Int32)), .unset] [(.int (10 : Int32)), (.ref a)])) rfl (hb hby own_h215) rfl (by decide) (cap := 10) (by decide) (by decide) (by decide) (by decide) (ad := "[Ljava/lang/Object;") (by decide)
 obtain ⟨a61, g62⟩ : ∃ z, z = h0.size := ⟨_, rfl⟩
 rw [← g62] at A57 EA60 st59
 have H063 : h0.size ≤ a61 := Nat.le_trans K0.1 (Nat.le_of_eq g62.symm)
 have G64 : n0 ≤ a61 := Nat.le_trans Z0 (Nat.le_of_eq g62.symm)
 have F65 := Exa.ext (h' := h52) E56 f0_
 have F66 := Fld.ext (h' := h52) E56 f1_
 have F67 := Fld.ext (h' := h52) E56 f2_
 have F68 := Fld.ext (h' := h52) E56 f3_
 have Z69 : n0 ≤ h52.size := Nat.le_trans Z0 E56.1
 have O70 := f5_.ext E56
 have P71 : Keep h0 h52 [a] := K0.ext E56
 have V72 : Arv Z h52 a61 kA53 (.object "java/lang/Object") (10 : Int32) [.null, .null, .null, .null, .null, .null, .null, .null, .null, .null] .null := Arv.pad (Arv.new A57 (by decide)) (pad_rep [] .null 10)
 have k8 : own_J p e below T51 m 55 #[.val (.ref a), .val (.int (1 : Int32)), .val (.int (0 : Int32)), .unset] [(.ref a61), (.ref a)] B_ := fun t_ hh => k7 t_ (st59 t_ hh)
 have k9 : own_J p e below T51 m 56 #[.val (.ref a), .val (.int (1 : Int32)), .val (.int (0 : Int32)), .unset] [(.ref a61), (.ref a), (.ref a61)] B_ := fun t_ hh => k8 t_ (by
  refine XS.dupX1 X54.here hx rfl (hb hby own_h216) rfl rfl rfl ?_
  exact hh)
 obtain ⟨T73, h74, X75, e76, W77, st78⟩ := putF X54 hx hZ hown (host := "") (Or.inl (wT hw 49 rfl)) Via.refl e55 F67 F65 (Or.inl (wT hw 50 rfl)) (wT hw 28 rfl) (ty := .array (.object "java/lang/Object")) (by decide) rfl rfl (g := (mkF m 56 #[.val (.ref a), .val (.int (1 : Int32)), .val (.int (0 : Int32)), .unset] [(.ref a61), (.ref a), (.ref a61)])) rfl rfl (hb hby own_h217)
 have N79 := Fr.snoc X75 N50 f4_
 have F80 := Exa.wr W77 F65
 have F81 := Fld.other W77 F66 (Or.inr (slot_ne (Or.inl (wT hw 47 rfl)) (Or.inl (wT hw 50 rfl)) (by decide) (t := .int) (t' := (.array (.object "java/lang/Object"))) (by decide) (by decide)))
 have F82 : Fld Z h74 a "java/util/ArrayList" "elementData" "[Ljava/lang/Object;" (.ref a61) := Fld.same W77 F67
 have F83 := Fld.other W77 F68 (Or.inr (slot_ne (Or.inl (wT hw 63 rfl)) (Or.inl (wT hw 50 rfl)) (by decide) (t := .int) (t' := (.array (.object "java/lang/Object"))) (by decide) (by decide)))
 have F86 := Exa.wr W77 EA60
 have ne88 : a ≠ a61 := by rw [g62]; exact Nat.ne_of_lt f0_.lt
 have F87 := V72.other W77 (Ne.symm ne88)
 have Z89 : n0 ≤ h74.size := W77.size ▸ Z69
 have O90 := O70.wr W77 f4_
 have P91 : Keep h0 h74 [a] := P71.wr W77 (Or.inl (List.mem_of_getElem? (i := 0) rfl))
 have k10 : own_J p e below T73 m 59 #[.val (.ref a), .val (.int (1 : Int32)), .val (.int (0 : Int32)), .unset] [(.ref a61)] B_ := fun t_ hh => k9 t_ (st78 t_ hh)
 obtain ⟨fs, hr, hrun, hended, hW, hsame⟩ := X75.leave (v := some (.ref a61)) (fun h => by rw [Bd.returns] at h; cases h)
 refine ⟨_, _, (own_from hB_ (k10 _ (retOut X75 hx (t := .array (.object "java/lang/Object")) Bd.returns rfl (Or.inr (Or.inr (Or.inr (Or.inr ⟨rfl, rfl, rfl⟩)))) (hb hby own_h218) hr))), hrun, hended, _, _, rfl, ?_, ⟨_, rfl⟩, hW, hsame.mono (own_l rfl) (own_l rfl)⟩
 show Q_rmGi Z a mc dz h0 n0 _ T73.heap _
 rw [e76]
 exact ⟨a61, kA53, rfl, N79, P91, F80, F81, F82, F83, F87, O58, G64, H063, ne88, F86, trivial⟩
def Q_rmGr (Z : State) (a : Addr) (mc : Int32) (dz : Addr) (h0 : Heap) (n0 : Nat) (v : Option Value) (h : Heap) (L : List Loc) : Prop := ∃ r : Addr, ∃ kr : ClassId, v = some (.ref r) ∧ Fr n0 L ∧ Keep h0 h [a] ∧ Exa Z h a "java/util/ArrayList" ∧ Fld Z h a "java/util/AbstractList" "modCount" "I" (.int mc) ∧ Fld Z h a "java/util/ArrayList" "elementData" "[Ljava/lang/Object;" (.ref r) ∧ Fld Z h a "java/util/ArrayList" "size" "I" (.int (0 : Int32)) ∧ Arv Z h r kr (.object "java/lang/Object") (10 : Int32) [.null, .null, .null, .null, .null, .null, .null, .null, .null, .null] .null ∧ Ovr Z kr "java/lang/Object" ∧ n0 ≤ r ∧ h0.size ≤ r ∧ a ≠ r ∧ Exa Z h r "[Ljava/lang/Object;" ∧ True
theorem own_h219 : decode jdk_38_method_7_code 0 = .ok (.aload_n 0, 1) := by decide +kernel
theorem own_h220 : decode jdk_38_method_7_code 1 = .ok (.aload_n 0, 1) := by decide +kernel
theorem own_h221 : decode jdk_38_method_7_code 2 = .ok (.getfield 48, 3) := by decide +kernel
theorem own_h222 : decode jdk_38_method_7_code 5 = .ok (.iconst 1, 1) := by decide +kernel
theorem own_h223 : decode jdk_38_method_7_code 6 = .ok (.iadd, 1) := by decide +kernel
theorem own_h224 : decode jdk_38_method_7_code 7 = .ok (.invokevirtual 69, 3) := by decide +kernel
theorem own_h225 : parseMethodDescriptor "(I)[Ljava/lang/Object;" = some ⟨[.int], some (.array (.object "java/lang/Object"))⟩ := by decide +kernel
theorem own_h226 : decode jdk_38_method_7_code 10 = .ok (.areturn, 1) := by decide +kernel
set_option maxRecDepth 65536 in
set_option maxHeartbeats 40000000 in
theorem rmGr (l : Launch) (Z : State) (a0 : Array Value) (hw : ∀ d ∈ tables_1, d.before a0 Z = true) (ws : List Jvm.Cond) (a : Addr) (mc : Int32) (dz : Addr) (h0 : Heap) (n0 : Nat) (Z0 : n0 ≤ h0.size) (f0_ : Exa Z h0 a "java/util/ArrayList") (f1_ : Fld Z h0 a "java/util/AbstractList" "modCount" "I" (.int mc)) (f2_ : Fld Z h0 a "java/util/ArrayList" "elementData" "[Ljava/lang/Object;" (.ref dz)) (f3_ : Fld Z h0 a "java/util/ArrayList" "size" "I" (.int (0 : Int32))) (f4_ : n0 ≤ a) (f5_ : Old Z n0 h0) (kz : ClassId) (sD : Sta Z Z.heap "java/util/ArrayList" "DEFAULTCAPACITY_EMPTY_ELEMENTDATA" "[Ljava/lang/Object;" (.ref dz)) (aD : Arv Z Z.heap dz kz (.object "java/lang/Object") (0 : Int32) [] .null) :
    own_Met l (⟨"java/util/ArrayList", "grow", "()[Ljava/lang/Object;"⟩ : MethodName) jdk_38_method_7_code 1 (some (.array (.object "java/lang/Object"))) ws (rO 2 1 10 29) #[(.ref a)] Z h0 (Q_rmGr Z a mc dz h0 n0) := by
 refine MetFree.of_bodySF (plainFor_of_name own_h186) hisR ?_
 intro p e s m args below meth c s₁ Bd hml0 hP hK
 obtain ⟨rfl, hZ, hh⟩ := hP
 have hx := Bd.exec
 have hby := Bd.bytes
 have hml : c.maxLocals = 1 := hml0
 have hown : s.vm.findClass "java/util/ArrayList" = some m.cls := findClass_of_methodNamed Bd.named
 have hnm := (name_of_methodNamed Bd.named Bd.method).1
 have X0 : Stand p l e (rO 2 1 10 29) s m #[(.ref a)] below meth c s₁ [] 0 0 := Stand.of_body Bd
 have e0 : s₁.heap = h0 := by rw [← hh, Bd.state]; rfl
 have N0 := Fr.nil n0
 obtain ⟨B_, hB_⟩ : ∃ z, z = s₁.setTop (entryFrame m #[(.ref a)] 1) := ⟨_, rfl⟩
 have k0 : own_K p e below (s₁.setTop (mkF m 0 #[.val (.ref a)] [])) B_ := by rw [hB_]; exact fun t k => castTop (by clear k; first | (simp [entryFrame, mkF, argsToLocals, Value.category, maxLocals]; done) | rfl) k
 have K0 : Keep h0 h0 [a] := Keep.refl _ _
 have k1 : own_J p e below s₁ m 2 #[.val (.ref a)] [(.ref a), (.ref a)] B_ := fun t_ hh => k0 t_ (by
  refine XS.aloadN X0.here hx rfl (hb hby own_h219) rfl rfl ?_
  refine XS.aloadN X0.here hx rfl (hb hby own_h220) rfl rfl ?_
  exact hh)
 obtain ⟨T21, X22, e23, st24⟩ := getF X0 hx hZ hown (host := "") (Or.inl (wT hw 62 rfl)) Via.refl e0 f3_ (g := (mkF m 2 #[.val (.ref a)] [(.ref a), (.ref a)])) rfl rfl (hb hby own_h221)
 have k2 : own_J p e below T21 m 5 #[.val (.ref a)] [(.int (0 : Int32)), (.ref a)] B_ := fun t_ hh => k1 t_ (st24 t_ hh)
 have k3 : own_J p e below T21 m 7 #[.val (.ref a)] [(.int (1 : Int32)), (.ref a)] B_ := fun t_ hh => k2 t_ (by
  refine XS.iconst X22.here hx rfl (hb hby own_h222) ?_
  refine XS.iadd X22.here hx rfl (hb hby own_h223) rfl ?_
  exact hh)
 obtain ⟨cq36, qa37, qb38⟩ := f0_.cell
 obtain ⟨_, _, ⟨T25, L26, k_27, n_28⟩, -, X29, ⟨Lc30, hQ31, l_32, y_33, z_34⟩, st35⟩ := X22.privateBack hx (y := (⟨"java/util/ArrayList", "grow", "(I)[Ljava/lang/Object;"⟩ : MethodName)) hown (mvT hZ (wT hw 74 rfl)) (mvT hZ (wT hw 75 rfl)) (mvT hZ (wT hw 77 rfl)) (Cond.privateMethod_at (mvP hZ (wT hw 76 rfl) (args := #[]))) (mvT hZ (wT hw 78 rfl)) (by decide) (backOf (W := 0) (rmGi l Z a0 hw [] a mc dz h0 n0 Z0 f0_ f1_ f2_ f3_ f4_ f5_ kz sD aD) hZ (wT hw 78 rfl) (wT hw 29 rfl) (by decide) (by decide)) (g := (mkF m 7 #[.val (.ref a)] [(.int (1 : Int32)), (.ref a)])) rfl (by rw [hml]; rfl) (Steps.refl _) (a := a) (by rw [e23]; exact qa37) qb38 (argsL := [(.int (1 : Int32))]) (rest := []) (lenOf own_h225 rfl) rfl (by show 2 * 0 + _ ≤ _; exact Nat.le_of_eq rfl) (hb hby own_h224) (fun _ _ => ⟨rfl, e23, own_l rfl, own_l rfl⟩)
 dsimp only [Pt.U, Pt.locs, Pt.cells, Pt.slots] at X29 l_32 y_33 z_34 st35 hQ31
 subst l_32 y_33 z_34
 obtain ⟨r40, kr41, rfl, N39, K52, F42, F43, F44, F45, F46, F47, F48, F49, F50, F51, -⟩ := hQ31
 have N53 := Fr.app N0 N39
 have H054 : h0.size ≤ r40 := Nat.le_trans K0.1 F49
 have F55 := f0_.keep K52
 have Z56 : n0 ≤ T25.heap.size := Nat.le_trans Z0 K52.1
 have O57 := f5_.keep K52 (allS f4_ all0)
 have P58 : Keep h0 T25.heap [a] := K0.trans K52 (allS (P := fun x => x ∈ [a] ∨ h0.size ≤ x) (Or.inl (List.mem_of_getElem? (i := 0) rfl)) all0)
 have e59 : T25.heap = T25.heap := rfl
 have k4 : own_J p e below T25 m 10 #[.val (.ref a)] [(.ref r40)] B_ := fun t_ hh => k3 t_ (st35.trans hh)
 obtain ⟨fs, hr, hrun, hended, hW, hsame⟩ := X29.leave (v := some (.ref r40)) (fun h => by rw [Bd.returns] at h; cases h)
 refine ⟨_, _, (own_from hB_ (k4 _ (retOut X29 hx (t := .array (.object "java/lang/Object")) Bd.returns rfl (Or.inr (Or.inr (Or.inr (Or.inr ⟨rfl, rfl, rfl⟩)))) (hb hby own_h226) hr))), hrun, hended, _, _, rfl, ?_, ⟨_, rfl⟩, hW, hsame.mono (own_l rfl) (own_l rfl)⟩
 show Q_rmGr Z a mc dz h0 n0 _ T25.heap _
 rw [e59]
 exact ⟨r40, kr41, rfl, N53, P58, F42, F43, F44, F45, F46, F47, F48, H054, F50, F51, trivial⟩
def Q_rmA3S0 (Z : State) (a : Addr) (x : Addr) (mc : Int32) (dz : Addr) (h0 : Heap) (n0 : Nat) (v : Option Value) (h : Heap) (L : List Loc) : Prop := ∃ r : Addr, ∃ kr : ClassId, v = none ∧ Fr n0 L ∧ Keep h0 h [a] ∧ Exa Z h a "java/util/ArrayList" ∧ Fld Z h a "java/util/AbstractList" "modCount" "I" (.int mc) ∧ Fld Z h a "java/util/ArrayList" "elementData" "[Ljava/lang/Object;" (.ref r) ∧ Fld Z h a "java/util/ArrayList" "size" "I" (.int (1 : Int32)) ∧ Arv Z h r kr (.object "java/lang/Object") (10 : Int32) [(.ref x), .null, .null, .null, .null, .null, .null, .null, .null, .null] .null ∧ Ovr Z kr "java/lang/Object" ∧ n0 ≤ r ∧ h0.size ≤ r ∧ a ≠ r ∧ Exa Z h r "[Ljava/lang/Object;" ∧ True
theorem own_h227 : decode jdk_38_method_24_code 0 = .ok (.iload_n 3, 1) := by decide +kernel
theorem own_h228 : decode jdk_38_method_24_code 1 = .ok (.aload_n 2, 1) := by decide +kernel
theorem own_h229 : decode jdk_38_method_24_code 2 = .ok (.arraylength, 1) := by decide +kernel
theorem own_h230 : decode jdk_38_method_24_code 3 = .ok (.if_icmp .ne 8, 3) := by decide +kernel
theorem own_h231 : decode jdk_38_method_24_code 6 = .ok (.aload_n 0, 1) := by decide +kernel
theorem own_h232 : decode jdk_38_method_24_code 7 = .ok (.invokevirtual 129, 3) := by decide +kernel
theorem own_h233 : parseMethodDescriptor "()[Ljava/lang/Object;" = some ⟨[], some (.array (.object "java/lang/Object"))⟩ := by decide +kernel
theorem own_h234 : decode jdk_38_method_24_code 10 = .ok (.astore_n 2, 1) := by decide +kernel
theorem own_h235 : decode jdk_38_method_24_code 11 = .ok (.aload_n 2, 1) := by decide +kernel
theorem own_h236 : decode jdk_38_method_24_code 12 = .ok (.iload_n 3, 1) := by decide +kernel
theorem own_h237 : decode jdk_38_method_24_code 13 = .ok (.aload_n 1, 1) := by decide +kernel
theorem own_h238 : decode jdk_38_method_24_code 14 = .ok (.aastore, 1) := by decide +kernel
theorem own_h239 : decode jdk_38_method_24_code 15 = .ok (.aload_n 0, 1) := by decide +kernel
theorem own_h240 : decode jdk_38_method_24_code 16 = .ok (.iload_n 3, 1) := by decide +kernel
theorem own_h241 : decode jdk_38_method_24_code 17 = .ok (.iconst 1, 1) := by decide +kernel
theorem own_h242 : decode jdk_38_method_24_code 18 = .ok (.iadd, 1) := by decide +kernel
theorem own_h243 : decode jdk_38_method_24_code 19 = .ok (.putfield 48, 3) := by decide +kernel
theorem own_h244 : decode jdk_38_method_24_code 22 = .ok (.return_, 1) := by decide +kernel
set_option maxRecDepth 65536 in
set_option maxHeartbeats 40000000 in
theorem rmA3S0 (l : Launch) (Z : State) (a0 : Array Value) (hw : ∀ d ∈ tables_1, d.before a0 Z = true) (ws : List Jvm.Cond) (a : Addr) (x : Addr) (mc : Int32) (dz : Addr) (h0 : Heap) (n0 : Nat) (Z0 : n0 ≤ h0.size) (f0_ : Exa Z h0 a "java/util/ArrayList") (f1_ : Fld Z h0 a "java/util/AbstractList" "modCount" "I" (.int mc)) (f2_ : Fld Z h0 a "java/util/ArrayList" "elementData" "[Ljava/lang/Object;" (.ref dz)) (f3_ : Fld Z h0 a "java/util/ArrayList" "size" "I" (.int (0 : Int32))) (f4_ : n0 ≤ a) (f5_ : Old Z n0 h0) (f6_ : Ins Z h0 x "java/lang/Object" true) (f7_ : x ≠ a) (kz : ClassId) (sD : Sta Z Z.heap "java/util/ArrayList" "DEFAULTCAPACITY_EMPTY_ELEMENTDATA" "[Ljava/lang/Object;" (.ref dz)) (aD : Arv Z Z.heap dz kz (.object "java/lang/Object") (0 : Int32) [] .null) :
    own_Met l (⟨"java/util/ArrayList", "add", "(Ljava/lang/Object;[Ljava/lang/Object;I)V"⟩ : MethodName) jdk_38_method_24_code 4 none ws (rO 3 1 10 41) #[(.ref a), (.ref x), (.ref dz), (.int (0 : Int32))] Z h0 (Q_rmA3S0 Z a x mc dz h0 n0) := by
 refine MetFree.of_bodySF (plainFor_of_name own_h186) hisR ?_
 intro p e s m args below meth c s₁ Bd hml0 hP hK
 obtain ⟨rfl, hZ, hh⟩ := hP
 have hx := Bd.exec
 have hby := Bd.bytes
 have hml : c.maxLocals = 4 := hml0
 have hown : s.vm.findClass "java/util/ArrayList" = some m.cls := findClass_of_methodNamed Bd.named
 have hnm := (name_of_methodNamed Bd.named Bd.method).1
 have X0 : Stand p l e (rO 3 1 10 41) s m #[(.ref a), (.ref x), (.ref dz), (.int (0 : Int32))] below meth c s₁ [] 0 0 := Stand.of_body Bd
 have e0 : s₁.heap = h0 := by rw [← hh, Bd.state]; rfl
 have N0 := Fr.nil n0
 obtain ⟨B_, hB_⟩ : ∃ z, z = s₁.setTop (entryFrame m #[(.ref a), (.ref x), (.ref dz), (.int (0 : Int32))] 4) := ⟨_, rfl⟩
 have k0 : own_K p e below (s₁.setTop (mkF m 0 #[.val (.ref a), .val (.ref x), .val (.ref dz), .val (.int (0 : Int32))] [])) B_ := by rw [hB_]; exact fun t k => castTop (by clear k; first | (simp [entryFrame, mkF, argsToLocals, Value.category, maxLocals]; done) | rfl) k
 have K0 : Keep h0 h0 [a] := Keep.refl _ _
 obtain ⟨cl21, Ar22, -, S23, Ng24, -, -⟩ := id (Arv.ext aD f5_.2)
 have k1 : own_J p e below s₁ m 7 #[.val (.ref a), .val (.ref x), .val (.ref dz), .val (.int (0 : Int32))] [(.ref a)] B_ := fun t_ hh => k0 t_ (by
  refine XS.iloadN X0.here hx rfl (hb hby own_h227) rfl ?_
  refine XS.aloadN X0.here hx rfl (hb hby own_h228) rfl rfl ?_
  refine X0.arraylength hx (by rw [e0]; exact Ar22.1) (State.isArrayOf_alike hZ.alike Ar22.2.1) (g := (mkF m 2 #[.val (.ref a), .val (.ref x), .val (.ref dz), .val (.int (0 : Int32))] [(.ref dz), (.int (0 : Int32))])) rfl rfl (hb hby own_h229) _ ?_
  rw [len_of S23 Ng24]
  refine XS.icmpNo X0.here hx rfl (hb hby own_h230) rfl (by decide) ?_
  refine XS.aloadN X0.here hx rfl (hb hby own_h231) rfl rfl ?_
  exact hh)
 obtain ⟨cq36, qa37, qb38⟩ := f0_.cell
 obtain ⟨_, _, ⟨T25, L26, k_27, n_28⟩, -, X29, ⟨Lc30, hQ31, l_32, y_33, z_34⟩, st35⟩ := X0.privateBack hx (y := (⟨"java/util/ArrayList", "grow", "()[Ljava/lang/Object;"⟩ : MethodName)) hown (mvT hZ (wT hw 69 rfl)) (mvT hZ (wT hw 70 rfl)) (mvT hZ (wT hw 72 rfl)) (Cond.privateMethod_at (mvP hZ (wT hw 71 rfl) (args := #[]))) (mvT hZ (wT hw 73 rfl)) (by decide) (backOf (W := 0) (rmGr l Z a0 hw [] a mc dz h0 n0 Z0 f0_ f1_ f2_ f3_ f4_ f5_ kz sD aD) hZ (wT hw 73 rfl) (wT hw 29 rfl) (by decide) (by decide)) (g := (mkF m 7 #[.val (.ref a), .val (.ref x), .val (.ref dz), .val (.int (0 : Int32))] [(.ref a)])) rfl (by rw [hml]; rfl) (Steps.refl _) (a := a) (by rw [e0]; exact qa37) qb38 (argsL := []) (rest := []) (lenOf own_h233 rfl) rfl (by show 2 * 0 + _ ≤ _; exact Nat.le_of_eq rfl) (hb hby own_h232) (fun _ _ => ⟨rfl, e0, own_l rfl, own_l rfl⟩)
 dsimp only [Pt.U, Pt.locs, Pt.cells, Pt.slots] at X29 l_32 y_33 z_34 st35 hQ31
 subst l_32 y_33 z_34
 obtain ⟨r40, kr41, rfl, N39, K52, F42, F43, F44, F45, F46, F47, F48, F49, F50, F51, -⟩ := hQ31
 have N53 := Fr.app N0 N39
 have H054 : h0.size ≤ r40 := Nat.le_trans K0.1 F49
 have F55 := f0_.keep K52
 have F56 := own_InsKeep f6_ K52 (ninS f7_ nin0)
 have Z57 : n0 ≤ T25.heap.size := Nat.le_trans Z0 K52.1
 have O58 := f5_.keep K52 (allS f4_ all0)
 have P59 : Keep h0 T25.heap [a] := K0.trans K52 (allS (P := fun x => x ∈ [a] ∨ h0.size ≤ x) (Or.inl (List.mem_of_getElem? (i := 0) rfl)) all0)
 have e60 : T25.heap = T25.heap := rfl
 have k2 : own_J p e below T25 m 10 #[.val (.ref a), .val (.ref x), .val (.ref dz), .val (.int (0 : Int32))] [(.ref r40)] B_ := fun t_ hh => k1 t_ (st35.trans hh)
 have k3 : own_J p e below T25 m 14 #[.val (.ref a), .val (.ref x), .val (.ref r40), .val (.int (0 : Int32))] [(.ref x), (.int (0 : Int32)), (.ref r40)] B_ := fun t_ hh => k2 t_ (by
  refine XS.astoreN X29.here hx rfl (hb hby own_h234) rfl rfl (l' := #[.val (.ref a), .val (.ref x), .val (.ref r40), .val (.int (0 : Int32))]) rfl ?_
  refine XS.aloadN X29.here hx rfl (hb hby own_h235) rfl rfl ?_
  refine XS.iloadN X29.here hx rfl (hb hby own_h236) rfl ?_
  refine XS.aloadN X29.here hx rfl (hb hby own_h237) rfl rfl ?_
  exact hh)
 obtain ⟨cl61, Ar62, q63, S64, Ng65, H66, Gf67⟩ := id F46
 have hin68 := inb_of (j := (0 : Int32)) S64 (by decide)
 obtain ⟨T69, h70, X71, e72, W73, st74⟩ := stR X29 hx hZ e60 Ar62 (j := (0 : Int32)) hin68 rfl (Sto.ofV Ar62 q63 F47 F56) (g := (mkF m 14 #[.val (.ref a), .val (.ref x), .val (.ref r40), .val (.int (0 : Int32))] [(.ref x), (.int (0 : Int32)), (.ref r40)])) rfl rfl (hb hby own_h238)
 have N75 := Fr.snoc X71 N53 F48
 have F76 := Exa.wr W73 F42
 have F77 := Ins.wr W73 F56
 have F80 := Fld.other W73 F43 (Or.inl F50)
 have F81 := Fld.other W73 F44 (Or.inl F50)
 have F82 := Fld.other W73 F45 (Or.inl F50)
 have F83 := Exa.wr W73 F51
 have Z84 : n0 ≤ h70.size := W73.size ▸ Z57
 have O85 := O58.wr W73 F48
 have P86 : Keep h0 h70 [a] := P59.wr W73 (Or.inr H054)
 have V87 : Arv Z h70 r40 kr41 (.object "java/lang/Object") (10 : Int32) [(.ref x), .null, .null, .null, .null, .null, .null, .null, .null, .null] .null := Arv.set Ar62 q63 S64 Ng65 H66 Gf67 rfl W73 0 rfl (own_lt rfl)
 have k4 : own_J p e below T69 m 15 #[.val (.ref a), .val (.ref x), .val (.ref r40), .val (.int (0 : Int32))] [] B_ := fun t_ hh => k3 t_ (st74 t_ hh)
 have k5 : own_J p e below T69 m 19 #[.val (.ref a), .val (.ref x), .val (.ref r40), .val (.int (0 : Int32))] [(.int (1 : Int32)), (.ref a)] B_ := fun t_ hh => k4 t_ (by
  refine XS.aloadN X71.here hx rfl (hb hby own_h239) rfl rfl ?_
  refine XS.iloadN X71.here hx rfl (hb hby own_h240) rfl ?_
  refine XS.iconst X71.here hx rfl (hb hby own_h241) ?_
  refine XS.iadd X71.here hx rfl (hb hby own_h242) rfl ?_
  exact hh)
 obtain ⟨T88, h89, X90, e91, W92, st93⟩ := putF X71 hx hZ hown (host := "") (Or.inl (wT hw 62 rfl)) Via.refl e72 F82 F76 (Or.inl (wT hw 63 rfl)) (wT hw 28 rfl) (ty := .int) (by decide) rfl rfl (g := (mkF m 19 #[.val (.ref a), .val (.ref x), .val (.ref r40), .val (.int (0 : Int32))] [(.int (1 : Int32)), (.ref a)])) rfl rfl (hb hby own_h243)
 have N94 := Fr.snoc X90 N75 f4_
 have F95 := Exa.wr W92 F76
 have F96 := Ins.wr W92 F77
 have F99 := Fld.other W92 F80 (Or.inr (slot_ne (Or.inl (wT hw 47 rfl)) (Or.inl (wT hw 63 rfl)) (by decide) (t := .int) (t' := .int) (by decide) (by decide)))
 have F100 := Fld.other W92 F81 (Or.inr (slot_ne (Or.inl (wT hw 50 rfl)) (Or.inl (wT hw 63 rfl)) (by decide) (t := (.array (.object "java/lang/Object"))) (t' := .int) (by decide) (by decide)))
 have F101 : Fld Z h89 a "java/util/ArrayList" "size" "I" (.int (1 : Int32)) := Fld.same W92 F82
 have F102 := Exa.wr W92 F83
 have F103 := V87.other W92 (Ne.symm F50)
 have Z104 : n0 ≤ h89.size := W92.size ▸ Z84
 have O105 := O85.wr W92 f4_
 have P106 : Keep h0 h89 [a] := P86.wr W92 (Or.inl (List.mem_of_getElem? (i := 0) rfl))
 have k6 : own_J p e below T88 m 22 #[.val (.ref a), .val (.ref x), .val (.ref r40), .val (.int (0 : Int32))] [] B_ := fun t_ hh => k5 t_ (st93 t_ hh)
 obtain ⟨fs, hr, hrun, hended, hW, hsame⟩ := X90.leave (v := none) (fun _ => rfl)
 refine ⟨_, _, (own_from hB_ (k6 _ (X90.returnOut hx Bd.returns (hb hby own_h244) hr))), hrun, hended, _, _, rfl, ?_, ⟨_, rfl⟩, hW, hsame.mono (own_l rfl) (own_l rfl)⟩
 show Q_rmA3S0 Z a x mc dz h0 n0 _ T88.heap _
 rw [e91]
 exact ⟨r40, kr41, rfl, N94, P106, F95, F99, F100, F101, F103, F47, F48, H054, F50, F102, trivial⟩
def Q_rmAdS0 (Z : State) (a : Addr) (x : Addr) (dz : Addr) (h0 : Heap) (n0 : Nat) (v : Option Value) (h : Heap) (L : List Loc) : Prop := ∃ r : Addr, ∃ kr : ClassId, v = some (.int (1 : Int32)) ∧ Fr n0 L ∧ Keep h0 h [a] ∧ Exa Z h a "java/util/ArrayList" ∧ Fld Z h a "java/util/AbstractList" "modCount" "I" (.int (1 : Int32)) ∧ Fld Z h a "java/util/ArrayList" "elementData" "[Ljava/lang/Object;" (.ref r) ∧ Fld Z h a "java/util/ArrayList" "size" "I" (.int (1 : Int32)) ∧ Arv Z h r kr (.object "java/lang/Object") (10 : Int32) [(.ref x), .null, .null, .null, .null, .null, .null, .null, .null, .null] .null ∧ Ovr Z kr "java/lang/Object" ∧ n0 ≤ r ∧ h0.size ≤ r ∧ a ≠ r ∧ Exa Z h r "[Ljava/lang/Object;" ∧ True
theorem own_h245 : decode jdk_38_method_25_code 0 = .ok (.aload_n 0, 1) := by decide +kernel
theorem own_h246 : decode jdk_38_method_25_code 1 = .ok (.dup, 1) := by decide +kernel
theorem own_h247 : decode jdk_38_method_25_code 2 = .ok (.getfield 63, 3) := by decide +kernel
theorem own_h248 : decode jdk_38_method_25_code 5 = .ok (.iconst 1, 1) := by decide +kernel
theorem own_h249 : decode jdk_38_method_25_code 6 = .ok (.iadd, 1) := by decide +kernel
theorem own_h250 : decode jdk_38_method_25_code 7 = .ok (.putfield 63, 3) := by decide +kernel
theorem own_h251 : decode jdk_38_method_25_code 10 = .ok (.aload_n 0, 1) := by decide +kernel
theorem own_h252 : decode jdk_38_method_25_code 11 = .ok (.aload_n 1, 1) := by decide +kernel
theorem own_h253 : decode jdk_38_method_25_code 12 = .ok (.aload_n 0, 1) := by decide +kernel
theorem own_h254 : decode jdk_38_method_25_code 13 = .ok (.getfield 9, 3) := by decide +kernel
theorem own_h255 : decode jdk_38_method_25_code 16 = .ok (.aload_n 0, 1) := by decide +kernel
theorem own_h256 : decode jdk_38_method_25_code 17 = .ok (.getfield 48, 3) := by decide +kernel
theorem own_h257 : decode jdk_38_method_25_code 20 = .ok (.invokevirtual 131, 3) := by decide +kernel
theorem own_h258 : parseMethodDescriptor "(Ljava/lang/Object;[Ljava/lang/Object;I)V" = some ⟨[.object "java/lang/Object", .array (.object "java/lang/Object"), .int], none⟩ := by decide +kernel
theorem own_h259 : decode jdk_38_method_25_code 23 = .ok (.iconst 1, 1) := by decide +kernel
theorem own_h260 : decode jdk_38_method_25_code 24 = .ok (.ireturn, 1) := by decide +kernel
set_option maxRecDepth 65536 in
set_option maxHeartbeats 40000000 in
theorem rmAdS0 (l : Launch) (Z : State) (a0 : Array Value) (hw : ∀ d ∈ tables_1, d.before a0 Z = true) (ws : List Jvm.Cond) (a : Addr) (x : Addr) (dz : Addr) (h0 : Heap) (n0 : Nat) (Z0 : n0 ≤ h0.size) (f0_ : Exa Z h0 a "java/util/ArrayList") (f1_ : Fld Z h0 a "java/util/AbstractList" "modCount" "I" (.int (0 : Int32))) (f2_ : Fld Z h0 a "java/util/ArrayList" "elementData" "[Ljava/lang/Object;" (.ref dz)) (f3_ : Fld Z h0 a "java/util/ArrayList" "size" "I" (.int (0 : Int32))) (f4_ : n0 ≤ a) (f5_ : Old Z n0 h0) (f6_ : Ins Z h0 x "java/lang/Object" true) (f7_ : x ≠ a) (kz : ClassId) (sD : Sta Z Z.heap "java/util/ArrayList" "DEFAULTCAPACITY_EMPTY_ELEMENTDATA" "[Ljava/lang/Object;" (.ref dz)) (aD : Arv Z Z.heap dz kz (.object "java/lang/Object") (0 : Int32) [] .null) :
    own_Met l (⟨"java/util/ArrayList", "add", "(Ljava/lang/Object;)Z"⟩ : MethodName) jdk_38_method_25_code 2 (some .boolean) ws (rO 4 1 10 56) #[(.ref a), (.ref x)] Z h0 (Q_rmAdS0 Z a x dz h0 n0) := by
 refine MetFree.of_bodySF (plainFor_of_name own_h186) hisR ?_
 intro p e s m args below meth c s₁ Bd hml0 hP hK
 obtain ⟨rfl, hZ, hh⟩ := hP
 have hx := Bd.exec
 have hby := Bd.bytes
 have hml : c.maxLocals = 2 := hml0
 have hown : s.vm.findClass "java/util/ArrayList" = some m.cls := findClass_of_methodNamed Bd.named
 have hnm := (name_of_methodNamed Bd.named Bd.method).1
 have X0 : Stand p l e (rO 4 1 10 56) s m #[(.ref a), (.ref x)] below meth c s₁ [] 0 0 := Stand.of_body Bd
 have e0 : s₁.heap = h0 := by rw [← hh, Bd.state]; rfl
 have N0 := Fr.nil n0
 obtain ⟨B_, hB_⟩ : ∃ z, z = s₁.setTop (entryFrame m #[(.ref a), (.ref x)] 2) := ⟨_, rfl⟩
 have k0 : own_K p e below (s₁.setTop (mkF m 0 #[.val (.ref a), .val (.ref x)] [])) B_ := by rw [hB_]; exact fun t k => castTop (by clear k; first | (simp [entryFrame, mkF, argsToLocals, Value.category, maxLocals]; done) | rfl) k
 have K0 : Keep h0 h0 [a] := Keep.refl _ _
 have k1 : own_J p e below s₁ m 2 #[.val (.ref a), .val (.ref x)] [(.ref a), (.ref a)] B_ := fun t_ hh => k0 t_ (by
  refine XS.aloadN X0.here hx rfl (hb hby own_h245) rfl rfl ?_
  refine XS.dup X0.here hx rfl (hb hby own_h246) rfl rfl ?_
  exact hh)
 obtain ⟨T21, X22, e23, st24⟩ := getF X0 hx hZ hown (host := "") (Or.inl (wT hw 60 rfl)) (Via.of (wT hw 61 rfl)) e0 f1_ (g := (mkF m 2 #[.val (.ref a), .val (.ref x)] [(.ref a), (.ref a)])) rfl rfl (hb hby own_h247)
 have k2 : own_J p e below T21 m 5 #[.val (.ref a), .val (.ref x)] [(.int (0 : Int32)), (.ref a)] B_ := fun t_ hh => k1 t_ (st24 t_ hh)
 have k3 : own_J p e below T21 m 7 #[.val (.ref a), .val (.ref x)] [(.int (1 : Int32)), (.ref a)] B_ := fun t_ hh => k2 t_ (by
  refine XS.iconst X22.here hx rfl (hb hby own_h248) ?_
  refine XS.iadd X22.here hx rfl (hb hby own_h249) rfl ?_
  exact hh)
 obtain ⟨T25, h26, X27, e28, W29, st30⟩ := putF X22 hx hZ hown (host := "") (Or.inl (wT hw 60 rfl)) (Via.of (wT hw 61 rfl)) e23 f1_ f0_ (Or.inl (wT hw 47 rfl)) (wT hw 28 rfl) (ty := .int) (by decide) rfl rfl (g := (mkF m 7 #[.val (.ref a), .val (.ref x)] [(.int (1 : Int32)), (.ref a)])) rfl rfl (hb hby own_h250)
 have N31 := Fr.snoc X27 N0 f4_
 have F32 := Exa.wr W29 f0_
 have F33 : Fld Z h26 a "java/util/AbstractList" "modCount" "I" (.int (1 : Int32)) := Fld.same W29 f1_
 have F34 := Fld.other W29 f2_ (Or.inr (slot_ne (Or.inl (wT hw 50 rfl)) (Or.inl (wT hw 47 rfl)) (by decide) (t := (.array (.object "java/lang/Object"))) (t' := .int) (by decide) (by decide)))
 have F35 := Fld.other W29 f3_ (Or.inr (slot_ne (Or.inl (wT hw 63 rfl)) (Or.inl (wT hw 47 rfl)) (by decide) (t := .int) (t' := .int) (by decide) (by decide)))
 have F36 := Ins.wr W29 f6_
 have Z39 : n0 ≤ h26.size := W29.size ▸ Z0
 have O40 := f5_.wr W29 f4_
 have P41 : Keep h0 h26 [a] := K0.wr W29 (Or.inl (List.mem_of_getElem? (i := 0) rfl))
 have k4 : own_J p e below T25 m 10 #[.val (.ref a), .val (.ref x)] [] B_ := fun t_ hh => k3 t_ (st30 t_ hh)
 have k5 : own_J p e below T25 m 13 #[.val (.ref a), .val (.ref x)] [(.ref a), (.ref x), (.ref a)] B_ := fun t_ hh => k4 t_ (by
  refine XS.aloadN X27.here hx rfl (hb hby own_h251) rfl rfl ?_
  refine XS.aloadN X27.here hx rfl (hb hby own_h252) rfl rfl ?_
  refine XS.aloadN X27.here hx rfl (hb hby own_h253) rfl rfl ?_
  exact hh)
 obtain ⟨T42, X43, e44, st45⟩ := getF X27 hx hZ hown (host := "") (Or.inl (wT hw 49 rfl)) Via.refl e28 F34 (g := (mkF m 13 #[.val (.ref a), .val (.ref x)] [(.ref a), (.ref x), (.ref a)])) rfl rfl (hb hby own_h254)
 have k6 : own_J p e below T42 m 16 #[.val (.ref a), .val (.ref x)] [(.ref dz), (.ref x), (.ref a)] B_ := fun t_ hh => k5 t_ (st45 t_ hh)
 have k7 : own_J p e below T42 m 17 #[.val (.ref a), .val (.ref x)] [(.ref a), (.ref dz), (.ref x), (.ref a)] B_ := fun t_ hh => k6 t_ (by
  refine XS.aloadN X43.here hx rfl (hb hby own_h255) rfl rfl ?_
  exact hh)
 obtain ⟨T46, X47, e48, st49⟩ := getF X43 hx hZ hown (host := "") (Or.inl (wT hw 62 rfl)) Via.refl e44 F35 (g := (mkF m 17 #[.val (.ref a), .val (.ref x)] [(.ref a), (.ref dz), (.ref x), (.ref a)])) rfl rfl (hb hby own_h256)
 have k8 : own_J p e below T46 m 20 #[.val (.ref a), .val (.ref x)] [(.int (0 : Int32)), (.ref dz), (.ref x), (.ref a)] B_ := fun t_ hh => k7 t_ (st49 t_ hh)
 obtain ⟨cq61, qa62, qb63⟩ := F32.cell
 obtain ⟨_, _, ⟨T50, L51, k_52, n_53⟩, -, X54, ⟨Lc55, hQ56, l_57, y_58, z_59⟩, st60⟩ := X47.privateBack hx (y := (⟨"java/util/ArrayList", "add", "(Ljava/lang/Object;[Ljava/lang/Object;I)V"⟩ : MethodName)) hown (mvT hZ (wT hw 64 rfl)) (mvT hZ (wT hw 65 rfl)) (mvT hZ (wT hw 67 rfl)) (Cond.privateMethod_at (mvP hZ (wT hw 66 rfl) (args := #[]))) (mvT hZ (wT hw 68 rfl)) (by decide) (backOf (W := 0) (rmA3S0 l Z a0 hw [] a x (1 : Int32) dz h26 n0 Z39 F32 F33 F34 F35 f4_ O40 F36 f7_ kz sD aD) hZ (wT hw 68 rfl) (wT hw 29 rfl) (by decide) (by decide)) (g := (mkF m 20 #[.val (.ref a), .val (.ref x)] [(.int (0 : Int32)), (.ref dz), (.ref x), (.ref a)])) rfl (by rw [hml]; rfl) (Steps.refl _) (a := a) (by rw [e48]; exact qa62) qb63 (argsL := [(.ref x), (.ref dz), (.int (0 : Int32))]) (rest := []) (lenOf own_h258 rfl) rfl (by show 2 * 0 + _ ≤ _; exact Nat.le_of_eq rfl) (hb hby own_h257) (fun _ _ => ⟨rfl, e48, own_l rfl, own_l rfl⟩)
 dsimp only [Pt.U, Pt.locs, Pt.cells, Pt.slots] at X54 l_57 y_58 z_59 st60 hQ56
 subst l_57 y_58 z_59
 obtain ⟨r65, kr66, rfl, N64, K77, F67, F68, F69, F70, F71, F72, F73, F74, F75, F76, -⟩ := hQ56
 have N78 := Fr.app N31 N64
 have H079 : h0.size ≤ r65 := Nat.le_trans P41.1 F74
 have F80 := F32.keep K77
 have F81 := own_InsKeep F36 K77 (ninS f7_ nin0)
 have Z82 : n0 ≤ T50.heap.size := Nat.le_trans Z39 K77.1
 have O83 := O40.keep K77 (allS f4_ all0)
 have P84 : Keep h0 T50.heap [a] := P41.trans K77 (allS (P := fun x => x ∈ [a] ∨ h0.size ≤ x) (Or.inl (List.mem_of_getElem? (i := 0) rfl)) all0)
 have e85 : T50.heap = T50.heap := rfl
 have k9 : own_J p e below T50 m 23 #[.val (.ref a), .val (.ref x)] [] B_ := fun t_ hh => k8 t_ (st60.trans hh)
 have k10 : own_J p e below T50 m 24 #[.val (.ref a), .val (.ref x)] [(.int (1 : Int32))] B_ := fun t_ hh => k9 t_ (by
  refine XS.iconst X54.here hx rfl (hb hby own_h259) ?_
  exact hh)
 obtain ⟨fs, hr, hrun, hended, hW, hsame⟩ := X54.leave (v := some (.int (1 : Int32))) (fun h => by rw [Bd.returns] at h; cases h)
 refine ⟨_, _, (own_from hB_ (k10 _ (retN X54 hx (t := .boolean) Bd.returns (by simp) (hb hby own_h260) hr))), hrun, hended, _, _, rfl, ?_, ⟨_, rfl⟩, hW, hsame.mono (own_l rfl) (own_l rfl)⟩
 show Q_rmAdS0 Z a x dz h0 n0 _ T50.heap _
 rw [e85]
 exact ⟨r65, kr66, rfl, N78, P84, F67, F68, F69, F70, F71, F72, F73, H079, F75, F76, trivial⟩
def Q_rmA3S1 (Z : State) (a : Addr) (x : Addr) (ea : Addr) (ke : ClassId) (x0 : Addr) (mc : Int32) (h0 : Heap) (n0 : Nat) (v : Option Value) (h : Heap) (L : List Loc) : Prop := v = none ∧ Fr n0 L ∧ Keep h0 h [a, ea] ∧ Exa Z h a "java/util/ArrayList" ∧ Fld Z h a "java/util/AbstractList" "modCount" "I" (.int mc) ∧ Fld Z h a "java/util/ArrayList" "elementData" "[Ljava/lang/Object;" (.ref ea) ∧ Fld Z h a "java/util/ArrayList" "size" "I" (.int (2 : Int32)) ∧ Arv Z h ea ke (.object "java/lang/Object") (10 : Int32) [(.ref x0), (.ref x), .null, .null, .null, .null, .null, .null, .null, .null] .null ∧ Ovr Z ke "java/lang/Object" ∧ True
set_option maxRecDepth 65536 in
set_option maxHeartbeats 40000000 in
theorem rmA3S1 (l : Launch) (Z : State) (a0 : Array Value) (hw : ∀ d ∈ tables_1, d.before a0 Z = true) (ws : List Jvm.Cond) (a : Addr) (x : Addr) (ea : Addr) (ke : ClassId) (x0 : Addr) (mc : Int32) (h0 : Heap) (n0 : Nat) (Z0 : n0 ≤ h0.size) (f0_ : Exa Z h0 a "java/util/ArrayList") (f1_ : Fld Z h0 a "java/util/AbstractList" "modCount" "I" (.int mc)) (f2_ : Fld Z h0 a "java/util/ArrayList" "elementData" "[Ljava/lang/Object;" (.ref ea)) (f3_ : Fld Z h0 a "java/util/ArrayList" "size" "I" (.int (1 : Int32))) (f4_ : n0 ≤ a) (f5_ : Arv Z h0 ea ke (.object "java/lang/Object") (10 : Int32) [(.ref x0), .null, .null, .null, .null, .null, .null, .null, .null, .null] .null) (f6_ : Ovr Z ke "java/lang/Object") (f7_ : n0 ≤ ea) (f8_ : a ≠ ea) (f9_ : Ins Z h0 x "java/lang/Object" true)  :
    own_Met l (⟨"java/util/ArrayList", "add", "(Ljava/lang/Object;[Ljava/lang/Object;I)V"⟩ : MethodName) jdk_38_method_24_code 4 none ws (rO 0 0 0 0) #[(.ref a), (.ref x), (.ref ea), (.int (1 : Int32))] Z h0 (Q_rmA3S1 Z a x ea ke x0 mc h0 n0) := by
 refine MetFree.of_bodySF (plainFor_of_name own_h186) hisR ?_
 intro p e s m args below meth c s₁ Bd hml0 hP hK
 obtain ⟨rfl, hZ, hh⟩ := hP
 have hx := Bd.exec
 have hby := Bd.bytes
 have hml : c.maxLocals = 4 := hml0
 have hown : s.vm.findClass "java/util/ArrayList" = some m.cls := findClass_of_methodNamed Bd.named
 have hnm := (name_of_methodNamed Bd.named Bd.method).1
 have X0 : Stand p l e (rO 0 0 0 0) s m #[(.ref a), (.ref x), (.ref ea), (.int (1 : Int32))] below meth c s₁ [] 0 0 := Stand.of_body Bd
 have e0 : s₁.heap = h0 := by rw [← hh, Bd.state]; rfl
 have N0 := Fr.nil n0
 obtain ⟨B_, hB_⟩ : ∃ z, z = s₁.setTop (entryFrame m #[(.ref a), (.ref x), (.ref ea), (.int (1 : Int32))] 4) := ⟨_, rfl⟩
 have k0 : own_K p e below (s₁.setTop (mkF m 0 #[.val (.ref a), .val (.ref x), .val (.ref ea), .val (.int (1 : Int32))] [])) B_ := by rw [hB_]; exact fun t k => castTop (by clear k; first | (simp [entryFrame, mkF, argsToLocals, Value.category, maxLocals]; done) | rfl) k
 have K0 : Keep h0 h0 [a, ea] := Keep.refl _ _
 obtain ⟨cl21, Ar22, -, S23, Ng24, -, -⟩ := id f5_
 have k1 : own_J p e below s₁ m 14 #[.val (.ref a), .val (.ref x), .val (.ref ea), .val (.int (1 : Int32))] [(.ref x), (.int (1 : Int32)), (.ref ea)] B_ := fun t_ hh => k0 t_ (by
  refine XS.iloadN X0.here hx rfl (hb hby own_h227) rfl ?_
  refine XS.aloadN X0.here hx rfl (hb hby own_h228) rfl rfl ?_
  refine X0.arraylength hx (by rw [e0]; exact Ar22.1) (State.isArrayOf_alike hZ.alike Ar22.2.1) (g := (mkF m 2 #[.val (.ref a), .val (.ref x), .val (.ref ea), .val (.int (1 : Int32))] [(.ref ea), (.int (1 : Int32))])) rfl rfl (hb hby own_h229) _ ?_
  rw [len_of S23 Ng24]
  refine XS.icmpYes X0.here hx rfl (pc0 := 3) (pc' := 11) rfl (hb hby own_h230) rfl (by decide) (by decide) (by decide) ?_
  refine XS.aloadN X0.here hx rfl (hb hby own_h235) rfl rfl ?_
  refine XS.iloadN X0.here hx rfl (hb hby own_h236) rfl ?_
  refine XS.aloadN X0.here hx rfl (hb hby own_h237) rfl rfl ?_
  exact hh)
 obtain ⟨cl25, Ar26, q27, S28, Ng29, H30, Gf31⟩ := id f5_
 have hin32 := inb_of (j := (1 : Int32)) S28 (by decide)
 obtain ⟨T33, h34, X35, e36, W37, st38⟩ := stR X0 hx hZ e0 Ar26 (j := (1 : Int32)) hin32 rfl (Sto.ofV Ar26 q27 f6_ f9_) (g := (mkF m 14 #[.val (.ref a), .val (.ref x), .val (.ref ea), .val (.int (1 : Int32))] [(.ref x), (.int (1 : Int32)), (.ref ea)])) rfl rfl (hb hby own_h238)
 have N39 := Fr.snoc X35 N0 f7_
 have F40 := Exa.wr W37 f0_
 have F41 := Fld.other W37 f1_ (Or.inl f8_)
 have F42 := Fld.other W37 f2_ (Or.inl f8_)
 have F43 := Fld.other W37 f3_ (Or.inl f8_)
 have F44 := Ins.wr W37 f9_
 have Z45 : n0 ≤ h34.size := W37.size ▸ Z0
 have P46 : Keep h0 h34 [a, ea] := K0.wr W37 (Or.inl (List.mem_of_getElem? (i := 1) rfl))
 have V47 : Arv Z h34 ea ke (.object "java/lang/Object") (10 : Int32) [(.ref x0), (.ref x), .null, .null, .null, .null, .null, .null, .null, .null] .null := Arv.set Ar26 q27 S28 Ng29 H30 Gf31 rfl W37 1 rfl (own_lt rfl)
 have k2 : own_J p e below T33 m 15 #[.val (.ref a), .val (.ref x), .val (.ref ea), .val (.int (1 : Int32))] [] B_ := fun t_ hh => k1 t_ (st38 t_ hh)
 have k3 : own_J p e below T33 m 19 #[.val (.ref a), .val (.ref x), .val (.ref ea), .val (.int (1 : Int32))] [(.int (2 : Int32)), (.ref a)] B_ := fun t_ hh => k2 t_ (by
  refine XS.aloadN X35.here hx rfl (hb hby own_h239) rfl rfl ?_
  refine XS.iloadN X35.here hx rfl (hb hby own_h240) rfl ?_
  refine XS.iconst X35.here hx rfl (hb hby own_h241) ?_
  refine XS.iadd X35.here hx rfl (hb hby own_h242) rfl ?_
  exact hh)
 obtain ⟨T48, h49, X50, e51, W52, st53⟩ := putF X35 hx hZ hown (host := "") (Or.inl (wT hw 62 rfl)) Via.refl e36 F43 F40 (Or.inl (wT hw 63 rfl)) (wT hw 28 rfl) (ty := .int) (by decide) rfl rfl (g := (mkF m 19 #[.val (.ref a), .val (.ref x), .val (.ref ea), .val (.int (1 : Int32))] [(.int (2 : Int32)), (.ref a)])) rfl rfl (hb hby own_h243)
 have N54 := Fr.snoc X50 N39 f4_
 have F55 := Exa.wr W52 F40
 have F56 := Fld.other W52 F41 (Or.inr (slot_ne (Or.inl (wT hw 47 rfl)) (Or.inl (wT hw 63 rfl)) (by decide) (t := .int) (t' := .int) (by decide) (by decide)))
 have F57 := Fld.other W52 F42 (Or.inr (slot_ne (Or.inl (wT hw 50 rfl)) (Or.inl (wT hw 63 rfl)) (by decide) (t := (.array (.object "java/lang/Object"))) (t' := .int) (by decide) (by decide)))
 have F58 : Fld Z h49 a "java/util/ArrayList" "size" "I" (.int (2 : Int32)) := Fld.same W52 F43
 have F59 := Ins.wr W52 F44
 have F60 := V47.other W52 (Ne.symm f8_)
 have Z61 : n0 ≤ h49.size := W52.size ▸ Z45
 have P62 : Keep h0 h49 [a, ea] := P46.wr W52 (Or.inl (List.mem_of_getElem? (i := 0) rfl))
 have k4 : own_J p e below T48 m 22 #[.val (.ref a), .val (.ref x), .val (.ref ea), .val (.int (1 : Int32))] [] B_ := fun t_ hh => k3 t_ (st53 t_ hh)
 obtain ⟨fs, hr, hrun, hended, hW, hsame⟩ := X50.leave (v := none) (fun _ => rfl)
 refine ⟨_, _, (own_from hB_ (k4 _ (X50.returnOut hx Bd.returns (hb hby own_h244) hr))), hrun, hended, _, _, rfl, ?_, ⟨_, rfl⟩, hW, hsame.mono (own_l rfl) (own_l rfl)⟩
 show Q_rmA3S1 Z a x ea ke x0 mc h0 n0 _ T48.heap _
 rw [e51]
 exact ⟨rfl, N54, P62, F55, F56, F57, F58, F60, f6_, trivial⟩
def Q_rmAdS1 (Z : State) (a : Addr) (x : Addr) (ea : Addr) (ke : ClassId) (x0 : Addr) (h0 : Heap) (n0 : Nat) (v : Option Value) (h : Heap) (L : List Loc) : Prop := v = some (.int (1 : Int32)) ∧ Fr n0 L ∧ Keep h0 h [a, ea] ∧ Exa Z h a "java/util/ArrayList" ∧ Fld Z h a "java/util/AbstractList" "modCount" "I" (.int (2 : Int32)) ∧ Fld Z h a "java/util/ArrayList" "elementData" "[Ljava/lang/Object;" (.ref ea) ∧ Fld Z h a "java/util/ArrayList" "size" "I" (.int (2 : Int32)) ∧ Arv Z h ea ke (.object "java/lang/Object") (10 : Int32) [(.ref x0), (.ref x), .null, .null, .null, .null, .null, .null, .null, .null] .null ∧ Ovr Z ke "java/lang/Object" ∧ True
set_option maxRecDepth 65536 in
set_option maxHeartbeats 40000000 in
theorem rmAdS1 (l : Launch) (Z : State) (a0 : Array Value) (hw : ∀ d ∈ tables_1, d.before a0 Z = true) (ws : List Jvm.Cond) (a : Addr) (x : Addr) (ea : Addr) (ke : ClassId) (x0 : Addr) (h0 : Heap) (n0 : Nat) (Z0 : n0 ≤ h0.size) (f0_ : Exa Z h0 a "java/util/ArrayList") (f1_ : Fld Z h0 a "java/util/AbstractList" "modCount" "I" (.int (1 : Int32))) (f2_ : Fld Z h0 a "java/util/ArrayList" "elementData" "[Ljava/lang/Object;" (.ref ea)) (f3_ : Fld Z h0 a "java/util/ArrayList" "size" "I" (.int (1 : Int32))) (f4_ : n0 ≤ a) (f5_ : Arv Z h0 ea ke (.object "java/lang/Object") (10 : Int32) [(.ref x0), .null, .null, .null, .null, .null, .null, .null, .null, .null] .null) (f6_ : Ovr Z ke "java/lang/Object") (f7_ : n0 ≤ ea) (f8_ : a ≠ ea) (f9_ : Ins Z h0 x "java/lang/Object" true)  :
    own_Met l (⟨"java/util/ArrayList", "add", "(Ljava/lang/Object;)Z"⟩ : MethodName) jdk_38_method_25_code 2 (some .boolean) ws (rO 1 0 0 15) #[(.ref a), (.ref x)] Z h0 (Q_rmAdS1 Z a x ea ke x0 h0 n0) := by
 refine MetFree.of_bodySF (plainFor_of_name own_h186) hisR ?_
 intro p e s m args below meth c s₁ Bd hml0 hP hK
 obtain ⟨rfl, hZ, hh⟩ := hP
 have hx := Bd.exec
 have hby := Bd.bytes
 have hml : c.maxLocals = 2 := hml0
 have hown : s.vm.findClass "java/util/ArrayList" = some m.cls := findClass_of_methodNamed Bd.named
 have hnm := (name_of_methodNamed Bd.named Bd.method).1
 have X0 : Stand p l e (rO 1 0 0 15) s m #[(.ref a), (.ref x)] below meth c s₁ [] 0 0 := Stand.of_body Bd
 have e0 : s₁.heap = h0 := by rw [← hh, Bd.state]; rfl
 have N0 := Fr.nil n0
 obtain ⟨B_, hB_⟩ : ∃ z, z = s₁.setTop (entryFrame m #[(.ref a), (.ref x)] 2) := ⟨_, rfl⟩
 have k0 : own_K p e below (s₁.setTop (mkF m 0 #[.val (.ref a), .val (.ref x)] [])) B_ := by rw [hB_]; exact fun t k => castTop (by clear k; first | (simp [entryFrame, mkF, argsToLocals, Value.category, maxLocals]; done) | rfl) k
 have K0 : Keep h0 h0 [a, ea] := Keep.refl _ _
 have k1 : own_J p e below s₁ m 2 #[.val (.ref a), .val (.ref x)] [(.ref a), (.ref a)] B_ := fun t_ hh => k0 t_ (by
  refine XS.aloadN X0.here hx rfl (hb hby own_h245) rfl rfl ?_
  refine XS.dup X0.here hx rfl (hb hby own_h246) rfl rfl ?_
  exact hh)
 obtain ⟨T21, X22, e23, st24⟩ := getF X0 hx hZ hown (host := "") (Or.inl (wT hw 60 rfl)) (Via.of (wT hw 61 rfl)) e0 f1_ (g := (mkF m 2 #[.val (.ref a), .val (.ref x)] [(.ref a), (.ref a)])) rfl rfl (hb hby own_h247)
 have k2 : own_J p e below T21 m 5 #[.val (.ref a), .val (.ref x)] [(.int (1 : Int32)), (.ref a)] B_ := fun t_ hh => k1 t_ (st24 t_ hh)
 have k3 : own_J p e below T21 m 7 #[.val (.ref a), .val (.ref x)] [(.int (2 : Int32)), (.ref a)] B_ := fun t_ hh => k2 t_ (by
  refine XS.iconst X22.here hx rfl (hb hby own_h248) ?_
  refine XS.iadd X22.here hx rfl (hb hby own_h249) rfl ?_
  exact hh)
 obtain ⟨T25, h26, X27, e28, W29, st30⟩ := putF X22 hx hZ hown (host := "") (Or.inl (wT hw 60 rfl)) (Via.of (wT hw 61 rfl)) e23 f1_ f0_ (Or.inl (wT hw 47 rfl)) (wT hw 28 rfl) (ty := .int) (by decide) rfl rfl (g := (mkF m 7 #[.val (.ref a), .val (.ref x)] [(.int (2 : Int32)), (.ref a)])) rfl rfl (hb hby own_h250)
 have N31 := Fr.snoc X27 N0 f4_
 have F32 := Exa.wr W29 f0_
 have F33 : Fld Z h26 a "java/util/AbstractList" "modCount" "I" (.int (2 : Int32)) := Fld.same W29 f1_
 have F34 := Fld.other W29 f2_ (Or.inr (slot_ne (Or.inl (wT hw 50 rfl)) (Or.inl (wT hw 47 rfl)) (by decide) (t := (.array (.object "java/lang/Object"))) (t' := .int) (by decide) (by decide)))
 have F35 := Fld.other W29 f3_ (Or.inr (slot_ne (Or.inl (wT hw 63 rfl)) (Or.inl (wT hw 47 rfl)) (by decide) (t := .int) (t' := .int) (by decide) (by decide)))
 have F36 := f5_.other W29 (Ne.symm f8_)
 have F37 := Ins.wr W29 f9_
 have Z38 : n0 ≤ h26.size := W29.size ▸ Z0
 have P39 : Keep h0 h26 [a, ea] := K0.wr W29 (Or.inl (List.mem_of_getElem? (i := 0) rfl))
 have k4 : own_J p e below T25 m 10 #[.val (.ref a), .val (.ref x)] [] B_ := fun t_ hh => k3 t_ (st30 t_ hh)
 have k5 : own_J p e below T25 m 13 #[.val (.ref a), .val (.ref x)] [(.ref a), (.ref x), (.ref a)] B_ := fun t_ hh => k4 t_ (by
  refine XS.aloadN X27.here hx rfl (hb hby own_h251) rfl rfl ?_
  refine XS.aloadN X27.here hx rfl (hb hby own_h252) rfl rfl ?_
  refine XS.aloadN X27.here hx rfl (hb hby own_h253) rfl rfl ?_
  exact hh)
 obtain ⟨T40, X41, e42, st43⟩ := getF X27 hx hZ hown (host := "") (Or.inl (wT hw 49 rfl)) Via.refl e28 F34 (g := (mkF m 13 #[.val (.ref a), .val (.ref x)] [(.ref a), (.ref x), (.ref a)])) rfl rfl (hb hby own_h254)
 have k6 : own_J p e below T40 m 16 #[.val (.ref a), .val (.ref x)] [(.ref ea), (.ref x), (.ref a)] B_ := fun t_ hh => k5 t_ (st43 t_ hh)
 have k7 : own_J p e below T40 m 17 #[.val (.ref a), .val (.ref x)] [(.ref a), (.ref ea), (.ref x), (.ref a)] B_ := fun t_ hh => k6 t_ (by
  refine XS.aloadN X41.here hx rfl (hb hby own_h255) rfl rfl ?_
  exact hh)
 obtain ⟨T44, X45, e46, st47⟩ := getF X41 hx hZ hown (host := "") (Or.inl (wT hw 62 rfl)) Via.refl e42 F35 (g := (mkF m 17 #[.val (.ref a), .val (.ref x)] [(.ref a), (.ref ea), (.ref x), (.ref a)])) rfl rfl (hb hby own_h256)
 have k8 : own_J p e below T44 m 20 #[.val (.ref a), .val (.ref x)] [(.int (1 : Int32)), (.ref ea), (.ref x), (.ref a)] B_ := fun t_ hh => k7 t_ (st47 t_ hh)
 obtain ⟨cq59, qa60, qb61⟩ := F32.cell
 obtain ⟨_, _, ⟨T48, L49, k_50, n_51⟩, -, X52, ⟨Lc53, hQ54, l_55, y_56, z_57⟩, st58⟩ := X45.privateBack hx (y := (⟨"java/util/ArrayList", "add", "(Ljava/lang/Object;[Ljava/lang/Object;I)V"⟩ : MethodName)) hown (mvT hZ (wT hw 64 rfl)) (mvT hZ (wT hw 65 rfl)) (mvT hZ (wT hw 67 rfl)) (Cond.privateMethod_at (mvP hZ (wT hw 66 rfl) (args := #[]))) (mvT hZ (wT hw 68 rfl)) (by decide) (backOf (W := 0) (rmA3S1 l Z a0 hw [] a x ea ke x0 (2 : Int32) h26 n0 Z38 F32 F33 F34 F35 f4_ F36 f6_ f7_ f8_ F37 ) hZ (wT hw 68 rfl) (wT hw 29 rfl) (by decide) (by decide)) (g := (mkF m 20 #[.val (.ref a), .val (.ref x)] [(.int (1 : Int32)), (.ref ea), (.ref x), (.ref a)])) rfl (by rw [hml]; rfl) (Steps.refl _) (a := a) (by rw [e46]; exact qa60) qb61 (argsL := [(.ref x), (.ref ea), (.int (1 : Int32))]) (rest := []) (lenOf own_h258 rfl) rfl (by show 2 * 0 + _ ≤ _; exact Nat.le_of_eq rfl) (hb hby own_h257) (fun _ _ => ⟨rfl, e46, own_l rfl, own_l rfl⟩)
 dsimp only [Pt.U, Pt.locs, Pt.cells, Pt.slots] at X52 l_55 y_56 z_57 st58 hQ54
 subst l_55 y_56 z_57
 obtain ⟨rfl, N62, K69, F63, F64, F65, F66, F67, F68, -⟩ := hQ54
 have N70 := Fr.app N31 N62
 have F71 := F32.keep K69
 have Z73 : n0 ≤ T48.heap.size := Nat.le_trans Z38 K69.1
 have P74 : Keep h0 T48.heap [a, ea] := P39.trans K69 (allS (P := fun x => x ∈ [a, ea] ∨ h0.size ≤ x) (Or.inl (List.mem_of_getElem? (i := 0) rfl)) (allS (P := fun x => x ∈ [a, ea] ∨ h0.size ≤ x) (Or.inl (List.mem_of_getElem? (i := 1) rfl)) all0))
 have e75 : T48.heap = T48.heap := rfl
 have k9 : own_J p e below T48 m 23 #[.val (.ref a), .val (.ref x)] [] B_ := fun t_ hh => k8 t_ (st58.trans hh)
 have k10 : own_J p e below T48 m 24 #[.val (.ref a), .val (.ref x)] [(.int (1 : Int32))] B_ := fun t_ hh => k9 t_ (by
  refine XS.iconst X52.here hx rfl (hb hby own_h259) ?_
  exact hh)
 obtain ⟨fs, hr, hrun, hended, hW, hsame⟩ := X52.leave (v := some (.int (1 : Int32))) (fun h => by rw [Bd.returns] at h; cases h)
 refine ⟨_, _, (own_from hB_ (k10 _ (retN X52 hx (t := .boolean) Bd.returns (by simp) (hb hby own_h260) hr))), hrun, hended, _, _, rfl, ?_, ⟨_, rfl⟩, hW, hsame.mono (own_l rfl) (own_l rfl)⟩
 show Q_rmAdS1 Z a x ea ke x0 h0 n0 _ T48.heap _
 rw [e75]
 exact ⟨rfl, N70, P74, F63, F64, F65, F66, F67, F68, trivial⟩
def Q_rmA3S2 (Z : State) (a : Addr) (x : Addr) (ea : Addr) (ke : ClassId) (x0 : Addr) (x1 : Addr) (mc : Int32) (h0 : Heap) (n0 : Nat) (v : Option Value) (h : Heap) (L : List Loc) : Prop := v = none ∧ Fr n0 L ∧ Keep h0 h [a, ea] ∧ Exa Z h a "java/util/ArrayList" ∧ Fld Z h a "java/util/AbstractList" "modCount" "I" (.int mc) ∧ Fld Z h a "java/util/ArrayList" "elementData" "[Ljava/lang/Object;" (.ref ea) ∧ Fld Z h a "java/util/ArrayList" "size" "I" (.int (3 : Int32)) ∧ Arv Z h ea ke (.object "java/lang/Object") (10 : Int32) [(.ref x0), (.ref x1), (.ref x), .null, .null, .null, .null, .null, .null, .null] .null ∧ Ovr Z ke "java/lang/Object" ∧ True
set_option maxRecDepth 65536 in
set_option maxHeartbeats 40000000 in
theorem rmA3S2 (l : Launch) (Z : State) (a0 : Array Value) (hw : ∀ d ∈ tables_1, d.before a0 Z = true) (ws : List Jvm.Cond) (a : Addr) (x : Addr) (ea : Addr) (ke : ClassId) (x0 : Addr) (x1 : Addr) (mc : Int32) (h0 : Heap) (n0 : Nat) (Z0 : n0 ≤ h0.size) (f0_ : Exa Z h0 a "java/util/ArrayList") (f1_ : Fld Z h0 a "java/util/AbstractList" "modCount" "I" (.int mc)) (f2_ : Fld Z h0 a "java/util/ArrayList" "elementData" "[Ljava/lang/Object;" (.ref ea)) (f3_ : Fld Z h0 a "java/util/ArrayList" "size" "I" (.int (2 : Int32))) (f4_ : n0 ≤ a) (f5_ : Arv Z h0 ea ke (.object "java/lang/Object") (10 : Int32) [(.ref x0), (.ref x1), .null, .null, .null, .null, .null, .null, .null, .null] .null) (f6_ : Ovr Z ke "java/lang/Object") (f7_ : n0 ≤ ea) (f8_ : a ≠ ea) (f9_ : Ins Z h0 x "java/lang/Object" true)  :
    own_Met l (⟨"java/util/ArrayList", "add", "(Ljava/lang/Object;[Ljava/lang/Object;I)V"⟩ : MethodName) jdk_38_method_24_code 4 none ws (rO 0 0 0 0) #[(.ref a), (.ref x), (.ref ea), (.int (2 : Int32))] Z h0 (Q_rmA3S2 Z a x ea ke x0 x1 mc h0 n0) := by
 refine MetFree.of_bodySF (plainFor_of_name own_h186) hisR ?_
 intro p e s m args below meth c s₁ Bd hml0 hP hK
 obtain ⟨rfl, hZ, hh⟩ := hP
 have hx := Bd.exec
 have hby := Bd.bytes
 have hml : c.maxLocals = 4 := hml0
 have hown : s.vm.findClass "java/util/ArrayList" = some m.cls := findClass_of_methodNamed Bd.named
 have hnm := (name_of_methodNamed Bd.named Bd.method).1
 have X0 : Stand p l e (rO 0 0 0 0) s m #[(.ref a), (.ref x), (.ref ea), (.int (2 : Int32))] below meth c s₁ [] 0 0 := Stand.of_body Bd
 have e0 : s₁.heap = h0 := by rw [← hh, Bd.state]; rfl
 have N0 := Fr.nil n0
 obtain ⟨B_, hB_⟩ : ∃ z, z = s₁.setTop (entryFrame m #[(.ref a), (.ref x), (.ref ea), (.int (2 : Int32))] 4) := ⟨_, rfl⟩
 have k0 : own_K p e below (s₁.setTop (mkF m 0 #[.val (.ref a), .val (.ref x), .val (.ref ea), .val (.int (2 : Int32))] [])) B_ := by rw [hB_]; exact fun t k => castTop (by clear k; first | (simp [entryFrame, mkF, argsToLocals, Value.category, maxLocals]; done) | rfl) k
 have K0 : Keep h0 h0 [a, ea] := Keep.refl _ _
 obtain ⟨cl21, Ar22, -, S23, Ng24, -, -⟩ := id f5_
 have k1 : own_J p e below s₁ m 14 #[.val (.ref a), .val (.ref x), .val (.ref ea), .val (.int (2 : Int32))] [(.ref x), (.int (2 : Int32)), (.ref ea)] B_ := fun t_ hh => k0 t_ (by
  refine XS.iloadN X0.here hx rfl (hb hby own_h227) rfl ?_
  refine XS.aloadN X0.here hx rfl (hb hby own_h228) rfl rfl ?_
  refine X0.arraylength hx (by rw [e0]; exact Ar22.1) (State.isArrayOf_alike hZ.alike Ar22.2.1) (g := (mkF m 2 #[.val (.ref a), .val (.ref x), .val (.ref ea), .val (.int (2 : Int32))] [(.ref ea), (.int (2 : Int32))])) rfl rfl (hb hby own_h229) _ ?_
  rw [len_of S23 Ng24]
  refine XS.icmpYes X0.here hx rfl (pc0 := 3) (pc' := 11) rfl (hb hby own_h230) rfl (by decide) (by decide) (by decide) ?_
  refine XS.aloadN X0.here hx rfl (hb hby own_h235) rfl rfl ?_
  refine XS.iloadN X0.here hx rfl (hb hby own_h236) rfl ?_
  refine XS.aloadN X0.here hx rfl (hb hby own_h237) rfl rfl ?_
  exact hh)
 obtain ⟨cl25, Ar26, q27, S28, Ng29, H30, Gf31⟩ := id f5_
 have hin32 := inb_of (j := (2 : Int32)) S28 (by decide)
 obtain ⟨T33, h34, X35, e36, W37, st38⟩ := stR X0 hx hZ e0 Ar26 (j := (2 : Int32)) hin32 rfl (Sto.ofV Ar26 q27 f6_ f9_) (g := (mkF m 14 #[.val (.ref a), .val (.ref x), .val (.ref ea), .val (.int (2 : Int32))] [(.ref x), (.int (2 : Int32)), (.ref ea)])) rfl rfl (hb hby own_h238)
 have N39 := Fr.snoc X35 N0 f7_
 have F40 := Exa.wr W37 f0_
 have F41 := Fld.other W37 f1_ (Or.inl f8_)
 have F42 := Fld.other W37 f2_ (Or.inl f8_)
 have F43 := Fld.other W37 f3_ (Or.inl f8_)
 have F44 := Ins.wr W37 f9_
 have Z45 : n0 ≤ h34.size := W37.size ▸ Z0
 have P46 : Keep h0 h34 [a, ea] := K0.wr W37 (Or.inl (List.mem_of_getElem? (i := 1) rfl))
 have V47 : Arv Z h34 ea ke (.object "java/lang/Object") (10 : Int32) [(.ref x0), (.ref x1), (.ref x), .null, .null, .null, .null, .null, .null, .null] .null := Arv.set Ar26 q27 S28 Ng29 H30 Gf31 rfl W37 2 rfl (own_lt rfl)
 have k2 : own_J p e below T33 m 15 #[.val (.ref a), .val (.ref x), .val (.ref ea), .val (.int (2 : Int32))] [] B_ := fun t_ hh => k1 t_ (st38 t_ hh)
 have k3 : own_J p e below T33 m 19 #[.val (.ref a), .val (.ref x), .val (.ref ea), .val (.int (2 : Int32))] [(.int (3 : Int32)), (.ref a)] B_ := fun t_ hh => k2 t_ (by
  refine XS.aloadN X35.here hx rfl (hb hby own_h239) rfl rfl ?_
  refine XS.iloadN X35.here hx rfl (hb hby own_h240) rfl ?_
  refine XS.iconst X35.here hx rfl (hb hby own_h241) ?_
  refine XS.iadd X35.here hx rfl (hb hby own_h242) rfl ?_
  exact hh)
 obtain ⟨T48, h49, X50, e51, W52, st53⟩ := putF X35 hx hZ hown (host := "") (Or.inl (wT hw 62 rfl)) Via.refl e36 F43 F40 (Or.inl (wT hw 63 rfl)) (wT hw 28 rfl) (ty := .int) (by decide) rfl rfl (g := (mkF m 19 #[.val (.ref a), .val (.ref x), .val (.ref ea), .val (.int (2 : Int32))] [(.int (3 : Int32)), (.ref a)])) rfl rfl (hb hby own_h243)
 have N54 := Fr.snoc X50 N39 f4_
 have F55 := Exa.wr W52 F40
 have F56 := Fld.other W52 F41 (Or.inr (slot_ne (Or.inl (wT hw 47 rfl)) (Or.inl (wT hw 63 rfl)) (by decide) (t := .int) (t' := .int) (by decide) (by decide)))
 have F57 := Fld.other W52 F42 (Or.inr (slot_ne (Or.inl (wT hw 50 rfl)) (Or.inl (wT hw 63 rfl)) (by decide) (t := (.array (.object "java/lang/Object"))) (t' := .int) (by decide) (by decide)))
 have F58 : Fld Z h49 a "java/util/ArrayList" "size" "I" (.int (3 : Int32)) := Fld.same W52 F43
 have F59 := Ins.wr W52 F44
 have F60 := V47.other W52 (Ne.symm f8_)
 have Z61 : n0 ≤ h49.size := W52.size ▸ Z45
 have P62 : Keep h0 h49 [a, ea] := P46.wr W52 (Or.inl (List.mem_of_getElem? (i := 0) rfl))
 have k4 : own_J p e below T48 m 22 #[.val (.ref a), .val (.ref x), .val (.ref ea), .val (.int (2 : Int32))] [] B_ := fun t_ hh => k3 t_ (st53 t_ hh)
 obtain ⟨fs, hr, hrun, hended, hW, hsame⟩ := X50.leave (v := none) (fun _ => rfl)
 refine ⟨_, _, (own_from hB_ (k4 _ (X50.returnOut hx Bd.returns (hb hby own_h244) hr))), hrun, hended, _, _, rfl, ?_, ⟨_, rfl⟩, hW, hsame.mono (own_l rfl) (own_l rfl)⟩
 show Q_rmA3S2 Z a x ea ke x0 x1 mc h0 n0 _ T48.heap _
 rw [e51]
 exact ⟨rfl, N54, P62, F55, F56, F57, F58, F60, f6_, trivial⟩
def Q_rmAdS2 (Z : State) (a : Addr) (x : Addr) (ea : Addr) (ke : ClassId) (x0 : Addr) (x1 : Addr) (h0 : Heap) (n0 : Nat) (v : Option Value) (h : Heap) (L : List Loc) : Prop := v = some (.int (1 : Int32)) ∧ Fr n0 L ∧ Keep h0 h [a, ea] ∧ Exa Z h a "java/util/ArrayList" ∧ Fld Z h a "java/util/AbstractList" "modCount" "I" (.int (3 : Int32)) ∧ Fld Z h a "java/util/ArrayList" "elementData" "[Ljava/lang/Object;" (.ref ea) ∧ Fld Z h a "java/util/ArrayList" "size" "I" (.int (3 : Int32)) ∧ Arv Z h ea ke (.object "java/lang/Object") (10 : Int32) [(.ref x0), (.ref x1), (.ref x), .null, .null, .null, .null, .null, .null, .null] .null ∧ Ovr Z ke "java/lang/Object" ∧ True
set_option maxRecDepth 65536 in
set_option maxHeartbeats 40000000 in
theorem rmAdS2 (l : Launch) (Z : State) (a0 : Array Value) (hw : ∀ d ∈ tables_1, d.before a0 Z = true) (ws : List Jvm.Cond) (a : Addr) (x : Addr) (ea : Addr) (ke : ClassId) (x0 : Addr) (x1 : Addr) (h0 : Heap) (n0 : Nat) (Z0 : n0 ≤ h0.size) (f0_ : Exa Z h0 a "java/util/ArrayList") (f1_ : Fld Z h0 a "java/util/AbstractList" "modCount" "I" (.int (2 : Int32))) (f2_ : Fld Z h0 a "java/util/ArrayList" "elementData" "[Ljava/lang/Object;" (.ref ea)) (f3_ : Fld Z h0 a "java/util/ArrayList" "size" "I" (.int (2 : Int32))) (f4_ : n0 ≤ a) (f5_ : Arv Z h0 ea ke (.object "java/lang/Object") (10 : Int32) [(.ref x0), (.ref x1), .null, .null, .null, .null, .null, .null, .null, .null] .null) (f6_ : Ovr Z ke "java/lang/Object") (f7_ : n0 ≤ ea) (f8_ : a ≠ ea) (f9_ : Ins Z h0 x "java/lang/Object" true)  :
    own_Met l (⟨"java/util/ArrayList", "add", "(Ljava/lang/Object;)Z"⟩ : MethodName) jdk_38_method_25_code 2 (some .boolean) ws (rO 1 0 0 15) #[(.ref a), (.ref x)] Z h0 (Q_rmAdS2 Z a x ea ke x0 x1 h0 n0) := by
 refine MetFree.of_bodySF (plainFor_of_name own_h186) hisR ?_
 intro p e s m args below meth c s₁ Bd hml0 hP hK
 obtain ⟨rfl, hZ, hh⟩ := hP
 have hx := Bd.exec
 have hby := Bd.bytes
 have hml : c.maxLocals = 2 := hml0
 have hown : s.vm.findClass "java/util/ArrayList" = some m.cls := findClass_of_methodNamed Bd.named
 have hnm := (name_of_methodNamed Bd.named Bd.method).1
 have X0 : Stand p l e (rO 1 0 0 15) s m #[(.ref a), (.ref x)] below meth c s₁ [] 0 0 := Stand.of_body Bd
 have e0 : s₁.heap = h0 := by rw [← hh, Bd.state]; rfl
 have N0 := Fr.nil n0
 obtain ⟨B_, hB_⟩ : ∃ z, z = s₁.setTop (entryFrame m #[(.ref a), (.ref x)] 2) := ⟨_, rfl⟩
 have k0 : own_K p e below (s₁.setTop (mkF m 0 #[.val (.ref a), .val (.ref x)] [])) B_ := by rw [hB_]; exact fun t k => castTop (by clear k; first | (simp [entryFrame, mkF, argsToLocals, Value.category, maxLocals]; done) | rfl) k
 have K0 : Keep h0 h0 [a, ea] := Keep.refl _ _
 have k1 : own_J p e below s₁ m 2 #[.val (.ref a), .val (.ref x)] [(.ref a), (.ref a)] B_ := fun t_ hh => k0 t_ (by
  refine XS.aloadN X0.here hx rfl (hb hby own_h245) rfl rfl ?_
  refine XS.dup X0.here hx rfl (hb hby own_h246) rfl rfl ?_
  exact hh)
 obtain ⟨T21, X22, e23, st24⟩ := getF X0 hx hZ hown (host := "") (Or.inl (wT hw 60 rfl)) (Via.of (wT hw 61 rfl)) e0 f1_ (g := (mkF m 2 #[.val (.ref a), .val (.ref x)] [(.ref a), (.ref a)])) rfl rfl (hb hby own_h247)
 have k2 : own_J p e below T21 m 5 #[.val (.ref a), .val (.ref x)] [(.int (2 : Int32)), (.ref a)] B_ := fun t_ hh => k1 t_ (st24 t_ hh)
 have k3 : own_J p e below T21 m 7 #[.val (.ref a), .val (.ref x)] [(.int (3 : Int32)), (.ref a)] B_ := fun t_ hh => k2 t_ (by
  refine XS.iconst X22.here hx rfl (hb hby own_h248) ?_
  refine XS.iadd X22.here hx rfl (hb hby own_h249) rfl ?_
  exact hh)
 obtain ⟨T25, h26, X27, e28, W29, st30⟩ := putF X22 hx hZ hown (host := "") (Or.inl (wT hw 60 rfl)) (Via.of (wT hw 61 rfl)) e23 f1_ f0_ (Or.inl (wT hw 47 rfl)) (wT hw 28 rfl) (ty := .int) (by decide) rfl rfl (g := (mkF m 7 #[.val (.ref a), .val (.ref x)] [(.int (3 : Int32)), (.ref a)])) rfl rfl (hb hby own_h250)
 have N31 := Fr.snoc X27 N0 f4_
 have F32 := Exa.wr W29 f0_
 have F33 : Fld Z h26 a "java/util/AbstractList" "modCount" "I" (.int (3 : Int32)) := Fld.same W29 f1_
 have F34 := Fld.other W29 f2_ (Or.inr (slot_ne (Or.inl (wT hw 50 rfl)) (Or.inl (wT hw 47 rfl)) (by decide) (t := (.array (.object "java/lang/Object"))) (t' := .int) (by decide) (by decide)))
 have F35 := Fld.other W29 f3_ (Or.inr (slot_ne (Or.inl (wT hw 63 rfl)) (Or.inl (wT hw 47 rfl)) (by decide) (t := .int) (t' := .int) (by decide) (by decide)))
 have F36 := f5_.other W29 (Ne.symm f8_)
 have F37 := Ins.wr W29 f9_
 have Z38 : n0 ≤ h26.size := W29.size ▸ Z0
 have P39 : Keep h0 h26 [a, ea] := K0.wr W29 (Or.inl (List.mem_of_getElem? (i := 0) rfl))
 have k4 : own_J p e below T25 m 10 #[.val (.ref a), .val (.ref x)] [] B_ := fun t_ hh => k3 t_ (st30 t_ hh)
 have k5 : own_J p e below T25 m 13 #[.val (.ref a), .val (.ref x)] [(.ref a), (.ref x), (.ref a)] B_ := fun t_ hh => k4 t_ (by
  refine XS.aloadN X27.here hx rfl (hb hby own_h251) rfl rfl ?_
  refine XS.aloadN X27.here hx rfl (hb hby own_h252) rfl rfl ?_
  refine XS.aloadN X27.here hx rfl (hb hby own_h253) rfl rfl ?_
  exact hh)
 obtain ⟨T40, X41, e42, st43⟩ := getF X27 hx hZ hown (host := "") (Or.inl (wT hw 49 rfl)) Via.refl e28 F34 (g := (mkF m 13 #[.val (.ref a), .val (.ref x)] [(.ref a), (.ref x), (.ref a)])) rfl rfl (hb hby own_h254)
 have k6 : own_J p e below T40 m 16 #[.val (.ref a), .val (.ref x)] [(.ref ea), (.ref x), (.ref a)] B_ := fun t_ hh => k5 t_ (st43 t_ hh)
 have k7 : own_J p e below T40 m 17 #[.val (.ref a), .val (.ref x)] [(.ref a), (.ref ea), (.ref x), (.ref a)] B_ := fun t_ hh => k6 t_ (by
  refine XS.aloadN X41.here hx rfl (hb hby own_h255) rfl rfl ?_
  exact hh)
 obtain ⟨T44, X45, e46, st47⟩ := getF X41 hx hZ hown (host := "") (Or.inl (wT hw 62 rfl)) Via.refl e42 F35 (g := (mkF m 17 #[.val (.ref a), .val (.ref x)] [(.ref a), (.ref ea), (.ref x), (.ref a)])) rfl rfl (hb hby own_h256)
 have k8 : own_J p e below T44 m 20 #[.val (.ref a), .val (.ref x)] [(.int (2 : Int32)), (.ref ea), (.ref x), (.ref a)] B_ := fun t_ hh => k7 t_ (st47 t_ hh)
 obtain ⟨cq59, qa60, qb61⟩ := F32.cell
 obtain ⟨_, _, ⟨T48, L49, k_50, n_51⟩, -, X52, ⟨Lc53, hQ54, l_55, y_56, z_57⟩, st58⟩ := X45.privateBack hx (y := (⟨"java/util/ArrayList", "add", "(Ljava/lang/Object;[Ljava/lang/Object;I)V"⟩ : MethodName)) hown (mvT hZ (wT hw 64 rfl)) (mvT hZ (wT hw 65 rfl)) (mvT hZ (wT hw 67 rfl)) (Cond.privateMethod_at (mvP hZ (wT hw 66 rfl) (args := #[]))) (mvT hZ (wT hw 68 rfl)) (by decide) (backOf (W := 0) (rmA3S2 l Z a0 hw [] a x ea ke x0 x1 (3 : Int32) h26 n0 Z38 F32 F33 F34 F35 f4_ F36 f6_ f7_ f8_ F37 ) hZ (wT hw 68 rfl) (wT hw 29 rfl) (by decide) (by decide)) (g := (mkF m 20 #[.val (.ref a), .val (.ref x)] [(.int (2 : Int32)), (.ref ea), (.ref x), (.ref a)])) rfl (by rw [hml]; rfl) (Steps.refl _) (a := a) (by rw [e46]; exact qa60) qb61 (argsL := [(.ref x), (.ref ea), (.int (2 : Int32))]) (rest := []) (lenOf own_h258 rfl) rfl (by show 2 * 0 + _ ≤ _; exact Nat.le_of_eq rfl) (hb hby own_h257) (fun _ _ => ⟨rfl, e46, own_l rfl, own_l rfl⟩)
 dsimp only [Pt.U, Pt.locs, Pt.cells, Pt.slots] at X52 l_55 y_56 z_57 st58 hQ54
 subst l_55 y_56 z_57
 obtain ⟨rfl, N62, K69, F63, F64, F65, F66, F67, F68, -⟩ := hQ54
 have N70 := Fr.app N31 N62
 have F71 := F32.keep K69
 have Z73 : n0 ≤ T48.heap.size := Nat.le_trans Z38 K69.1
 have P74 : Keep h0 T48.heap [a, ea] := P39.trans K69 (allS (P := fun x => x ∈ [a, ea] ∨ h0.size ≤ x) (Or.inl (List.mem_of_getElem? (i := 0) rfl)) (allS (P := fun x => x ∈ [a, ea] ∨ h0.size ≤ x) (Or.inl (List.mem_of_getElem? (i := 1) rfl)) all0))
 have e75 : T48.heap = T48.heap := rfl
 have k9 : own_J p e below T48 m 23 #[.val (.ref a), .val (.ref x)] [] B_ := fun t_ hh => k8 t_ (st58.trans hh)
 have k10 : own_J p e below T48 m 24 #[.val (.ref a), .val (.ref x)] [(.int (1 : Int32))] B_ := fun t_ hh => k9 t_ (by
  refine XS.iconst X52.here hx rfl (hb hby own_h259) ?_
  exact hh)
 obtain ⟨fs, hr, hrun, hended, hW, hsame⟩ := X52.leave (v := some (.int (1 : Int32))) (fun h => by rw [Bd.returns] at h; cases h)
 refine ⟨_, _, (own_from hB_ (k10 _ (retN X52 hx (t := .boolean) Bd.returns (by simp) (hb hby own_h260) hr))), hrun, hended, _, _, rfl, ?_, ⟨_, rfl⟩, hW, hsame.mono (own_l rfl) (own_l rfl)⟩
 show Q_rmAdS2 Z a x ea ke x0 x1 h0 n0 _ T48.heap _
 rw [e75]
 exact ⟨rfl, N70, P74, F63, F64, F65, F66, F67, F68, trivial⟩
def Q_rmSz (Z : State) (a : Addr) (sz : Int32) (h0 : Heap) (n0 : Nat) (v : Option Value) (h : Heap) (L : List Loc) : Prop := v = some (.int sz) ∧ Fr n0 L ∧ h = h0
theorem own_h261 : decode jdk_38_method_8_code 0 = .ok (.aload_n 0, 1) := by decide +kernel
theorem own_h262 : decode jdk_38_method_8_code 1 = .ok (.getfield 48, 3) := by decide +kernel
theorem own_h263 : decode jdk_38_method_8_code 4 = .ok (.ireturn, 1) := by decide +kernel
set_option maxRecDepth 65536 in
set_option maxHeartbeats 40000000 in
theorem rmSz (l : Launch) (Z : State) (a0 : Array Value) (hw : ∀ d ∈ tables_1, d.before a0 Z = true) (ws : List Jvm.Cond) (a : Addr) (sz : Int32) (h0 : Heap) (n0 : Nat) (Z0 : n0 ≤ h0.size) (f0_ : Fld Z h0 a "java/util/ArrayList" "size" "I" (.int sz))  :
    own_Met l (⟨"java/util/ArrayList", "size", "()I"⟩ : MethodName) jdk_38_method_8_code 1 (some .int) ws (rO 0 0 0 0) #[(.ref a)] Z h0 (Q_rmSz Z a sz h0 n0) := by
 refine MetFree.of_bodySF (plainFor_of_name own_h186) hisR ?_
 intro p e s m args below meth c s₁ Bd hml0 hP hK
 obtain ⟨rfl, hZ, hh⟩ := hP
 have hx := Bd.exec
 have hby := Bd.bytes
 have hml : c.maxLocals = 1 := hml0
 have hown : s.vm.findClass "java/util/ArrayList" = some m.cls := findClass_of_methodNamed Bd.named
 have hnm := (name_of_methodNamed Bd.named Bd.method).1
 have X0 : Stand p l e (rO 0 0 0 0) s m #[(.ref a)] below meth c s₁ [] 0 0 := Stand.of_body Bd
 have e0 : s₁.heap = h0 := by rw [← hh, Bd.state]; rfl
 have N0 := Fr.nil n0
 obtain ⟨B_, hB_⟩ : ∃ z, z = s₁.setTop (entryFrame m #[(.ref a)] 1) := ⟨_, rfl⟩
 have k0 : own_K p e below (s₁.setTop (mkF m 0 #[.val (.ref a)] [])) B_ := by rw [hB_]; exact fun t k => castTop (by clear k; first | (simp [entryFrame, mkF, argsToLocals, Value.category, maxLocals]; done) | rfl) k
 have k1 : own_J p e below s₁ m 1 #[.val (.ref a)] [(.ref a)] B_ := fun t_ hh => k0 t_ (by
  refine XS.aloadN X0.here hx rfl (hb hby own_h261) rfl rfl ?_
  exact hh)
 obtain ⟨T21, X22, e23, st24⟩ := getF X0 hx hZ hown (host := "") (Or.inl (wT hw 62 rfl)) Via.refl e0 f0_ (g := (mkF m 1 #[.val (.ref a)] [(.ref a)])) rfl rfl (hb hby own_h262)
 have k2 : own_J p e below T21 m 4 #[.val (.ref a)] [(.int sz)] B_ := fun t_ hh => k1 t_ (st24 t_ hh)
 obtain ⟨fs, hr, hrun, hended, hW, hsame⟩ := X22.leave (v := some (.int sz)) (fun h => by rw [Bd.returns] at h; cases h)
 refine ⟨_, _, (own_from hB_ (k2 _ (retOut X22 hx (t := .int) Bd.returns rfl (Or.inl ⟨rfl, (by simp), _, rfl⟩) (hb hby own_h263) hr))), hrun, hended, _, _, rfl, ?_, ⟨_, rfl⟩, hW, hsame.mono (own_l rfl) (own_l rfl)⟩
 show Q_rmSz Z a sz h0 n0 _ T21.heap _
 rw [e23]
 exact ⟨rfl, N0, rfl⟩
def Q_rmIe (Z : State) (a : Addr) (sz : Int32) (h0 : Heap) (n0 : Nat) (v : Option Value) (h : Heap) (L : List Loc) : Prop := v = some (.int (0 : Int32)) ∧ Fr n0 L ∧ h = h0
theorem own_h264 : decode jdk_38_method_9_code 0 = .ok (.aload_n 0, 1) := by decide +kernel
theorem own_h265 : decode jdk_38_method_9_code 1 = .ok (.getfield 48, 3) := by decide +kernel
theorem own_h266 : decode jdk_38_method_9_code 4 = .ok (.ifCond .ne 7, 3) := by decide +kernel
theorem own_h267 : decode jdk_38_method_9_code 11 = .ok (.iconst 0, 1) := by decide +kernel
theorem own_h268 : decode jdk_38_method_9_code 12 = .ok (.ireturn, 1) := by decide +kernel
set_option maxRecDepth 65536 in
set_option maxHeartbeats 40000000 in
theorem rmIe (l : Launch) (Z : State) (a0 : Array Value) (hw : ∀ d ∈ tables_1, d.before a0 Z = true) (ws : List Jvm.Cond) (a : Addr) (sz : Int32) (h0 : Heap) (n0 : Nat) (Z0 : n0 ≤ h0.size) (f0_ : Fld Z h0 a "java/util/ArrayList" "size" "I" (.int sz)) (hnz : ¬ sz = 0)  :
    own_Met l (⟨"java/util/ArrayList", "isEmpty", "()Z"⟩ : MethodName) jdk_38_method_9_code 1 (some .boolean) ws (rO 0 0 0 0) #[(.ref a)] Z h0 (Q_rmIe Z a sz h0 n0) := by
 refine MetFree.of_bodySF (plainFor_of_name own_h186) hisR ?_
 intro p e s m args below meth c s₁ Bd hml0 hP hK
 obtain ⟨rfl, hZ, hh⟩ := hP
 have hx := Bd.exec
 have hby := Bd.bytes
 have hml : c.maxLocals = 1 := hml0
 have hown : s.vm.findClass "java/util/ArrayList" = some m.cls := findClass_of_methodNamed Bd.named
 have hnm := (name_of_methodNamed Bd.named Bd.method).1
 have X0 : Stand p l e (rO 0 0 0 0) s m #[(.ref a)] below meth c s₁ [] 0 0 := Stand.of_body Bd
 have e0 : s₁.heap = h0 := by rw [← hh, Bd.state]; rfl
 have N0 := Fr.nil n0
 obtain ⟨B_, hB_⟩ : ∃ z, z = s₁.setTop (entryFrame m #[(.ref a)] 1) := ⟨_, rfl⟩
 have k0 : own_K p e below (s₁.setTop (mkF m 0 #[.val (.ref a)] [])) B_ := by rw [hB_]; exact fun t k => castTop (by clear k; first | (simp [entryFrame, mkF, argsToLocals, Value.category, maxLocals]; done) | rfl) k
 have k1 : own_J p e below s₁ m 1 #[.val (.ref a)] [(.ref a)] B_ := fun t_ hh => k0 t_ (by
  refine XS.aloadN X0.here hx rfl (hb hby own_h264) rfl rfl ?_
  exact hh)
 obtain ⟨T21, X22, e23, st24⟩ := getF X0 hx hZ hown (host := "") (Or.inl (wT hw 62 rfl)) Via.refl e0 f0_ (g := (mkF m 1 #[.val (.ref a)] [(.ref a)])) rfl rfl (hb hby own_h265)
 have k2 : own_J p e below T21 m 4 #[.val (.ref a)] [(.int sz)] B_ := fun t_ hh => k1 t_ (st24 t_ hh)
 have k3 : own_J p e below T21 m 12 #[.val (.ref a)] [(.int (0 : Int32))] B_ := fun t_ hh => k2 t_ (by
  refine XS.ifYes X22.here hx rfl (pc0 := 4) (pc' := 11) rfl (hb hby own_h266) rfl (own_ifT_ne hnz) (by decide) (by decide) ?_
  refine XS.iconst X22.here hx rfl (hb hby own_h267) ?_
  exact hh)
 obtain ⟨fs, hr, hrun, hended, hW, hsame⟩ := X22.leave (v := some (.int (0 : Int32))) (fun h => by rw [Bd.returns] at h; cases h)
 refine ⟨_, _, (own_from hB_ (k3 _ (retN X22 hx (t := .boolean) Bd.returns (by simp) (hb hby own_h268) hr))), hrun, hended, _, _, rfl, ?_, ⟨_, rfl⟩, hW, hsame.mono (own_l rfl) (own_l rfl)⟩
 show Q_rmIe Z a sz h0 n0 _ T21.heap _
 rw [e23]
 exact ⟨rfl, N0, rfl⟩
def Q_rmPc (Z : State) (i : Int32) (n : Int32) (h0 : Heap) (n0 : Nat) (v : Option Value) (h : Heap) (L : List Loc) : Prop := v = some (.int i) ∧ Fr n0 L ∧ h = h0
theorem own_h269 : plainName "jdk/internal/util/Preconditions" = true := by first | (simp [plainName, overriddenIn]; done) | decide +kernel
theorem own_h270 : decode jdk_41_method_11_code 0 = .ok (.iload_n 0, 1) := by decide +kernel
theorem own_h271 : decode jdk_41_method_11_code 1 = .ok (.ifCond .lt 8, 3) := by decide +kernel
theorem own_h272 : decode jdk_41_method_11_code 4 = .ok (.iload_n 0, 1) := by decide +kernel
theorem own_h273 : decode jdk_41_method_11_code 5 = .ok (.iload_n 1, 1) := by decide +kernel
theorem own_h274 : decode jdk_41_method_11_code 6 = .ok (.if_icmp .lt 10, 3) := by decide +kernel
theorem own_h275 : decode jdk_41_method_11_code 16 = .ok (.iload_n 0, 1) := by decide +kernel
theorem own_h276 : decode jdk_41_method_11_code 17 = .ok (.ireturn, 1) := by decide +kernel
set_option maxRecDepth 65536 in
set_option maxHeartbeats 40000000 in
theorem rmPc (l : Launch) (Z : State) (a0 : Array Value) (hw : ∀ d ∈ tables_1, d.before a0 Z = true) (ws : List Jvm.Cond) (i : Int32) (n : Int32) (h0 : Heap) (n0 : Nat) (Z0 : n0 ≤ h0.size) (hi0 : ¬ i < 0) (hi1 : i < n)  :
    own_Met l (⟨"jdk/internal/util/Preconditions", "checkIndex", "(IILjava/util/function/BiFunction;)I"⟩ : MethodName) jdk_41_method_11_code 3 (some .int) ws (rO 0 0 0 0) #[(.int i), (.int n), .null] Z h0 (Q_rmPc Z i n h0 n0) := by
 refine MetFree.of_bodySF (plainFor_of_name own_h269) hisR ?_
 intro p e s m args below meth c s₁ Bd hml0 hP hK
 obtain ⟨rfl, hZ, hh⟩ := hP
 have hx := Bd.exec
 have hby := Bd.bytes
 have hml : c.maxLocals = 3 := hml0
 have hown : s.vm.findClass "jdk/internal/util/Preconditions" = some m.cls := findClass_of_methodNamed Bd.named
 have hnm := (name_of_methodNamed Bd.named Bd.method).1
 have X0 : Stand p l e (rO 0 0 0 0) s m #[(.int i), (.int n), .null] below meth c s₁ [] 0 0 := Stand.of_body Bd
 have e0 : s₁.heap = h0 := by rw [← hh, Bd.state]; rfl
 have N0 := Fr.nil n0
 obtain ⟨B_, hB_⟩ : ∃ z, z = s₁.setTop (entryFrame m #[(.int i), (.int n), .null] 3) := ⟨_, rfl⟩
 have k0 : own_K p e below (s₁.setTop (mkF m 0 #[.val (.int i), .val (.int n), .val .null] [])) B_ := by rw [hB_]; exact fun t k => castTop (by clear k; first | (simp [entryFrame, mkF, argsToLocals, Value.category, maxLocals]; done) | rfl) k
 have k1 : own_J p e below s₁ m 17 #[.val (.int i), .val (.int n), .val .null] [(.int i)] B_ := fun t_ hh => k0 t_ (by
  refine XS.iloadN X0.here hx rfl (hb hby own_h270) rfl ?_
  refine XS.ifNo X0.here hx rfl (hb hby own_h271) rfl (own_ifF_lt hi0) ?_
  refine XS.iloadN X0.here hx rfl (hb hby own_h272) rfl ?_
  refine XS.iloadN X0.here hx rfl (hb hby own_h273) rfl ?_
  refine XS.icmpYes X0.here hx rfl (pc0 := 6) (pc' := 16) rfl (hb hby own_h274) rfl (own_icT_lt hi1) (by decide) (by decide) ?_
  refine XS.iloadN X0.here hx rfl (hb hby own_h275) rfl ?_
  exact hh)
 obtain ⟨fs, hr, hrun, hended, hW, hsame⟩ := X0.leave (v := some (.int i)) (fun h => by rw [Bd.returns] at h; cases h)
 refine ⟨_, _, (own_from hB_ (k1 _ (retOut X0 hx (t := .int) Bd.returns rfl (Or.inl ⟨rfl, (by simp), _, rfl⟩) (hb hby own_h276) hr))), hrun, hended, _, _, rfl, ?_, ⟨_, rfl⟩, hW, hsame.mono (own_l rfl) (own_l rfl)⟩
 show Q_rmPc Z i n h0 n0 _ s₁.heap _
 rw [e0]
 exact ⟨rfl, N0, rfl⟩
def Q_rmCi (Z : State) (i : Int32) (n : Int32) (h0 : Heap) (n0 : Nat) (v : Option Value) (h : Heap) (L : List Loc) : Prop := v = some (.int i) ∧ Fr n0 L ∧ h = h0
theorem own_h277 : plainName "java/util/Objects" = true := by first | (simp [plainName, overriddenIn]; done) | decide +kernel
theorem own_h278 : decode jdk_31_method_17_code 0 = .ok (.iload_n 0, 1) := by decide +kernel
theorem own_h279 : decode jdk_31_method_17_code 1 = .ok (.iload_n 1, 1) := by decide +kernel
theorem own_h280 : decode jdk_31_method_17_code 2 = .ok (.aconst_null, 1) := by decide +kernel
theorem own_h281 : decode jdk_31_method_17_code 3 = .ok (.invokestatic 105, 3) := by decide +kernel
theorem own_h282 : parseMethodDescriptor "(IILjava/util/function/BiFunction;)I" = some ⟨[.int, .int, .object "java/util/function/BiFunction"], some .int⟩ := by decide +kernel
theorem own_h283 : decode jdk_31_method_17_code 6 = .ok (.ireturn, 1) := by decide +kernel
set_option maxRecDepth 65536 in
set_option maxHeartbeats 40000000 in
theorem rmCi (l : Launch) (Z : State) (a0 : Array Value) (hw : ∀ d ∈ tables_1, d.before a0 Z = true) (ws : List Jvm.Cond) (i : Int32) (n : Int32) (h0 : Heap) (n0 : Nat) (Z0 : n0 ≤ h0.size) (hi0 : ¬ i < 0) (hi1 : i < n)  :
    own_Met l (⟨"java/util/Objects", "checkIndex", "(II)I"⟩ : MethodName) jdk_31_method_17_code 2 (some .int) ws (rO 1 0 0 14) #[(.int i), (.int n)] Z h0 (Q_rmCi Z i n h0 n0) := by
 refine MetFree.of_bodySF (plainFor_of_name own_h277) hisR ?_
 intro p e s m args below meth c s₁ Bd hml0 hP hK
 obtain ⟨rfl, hZ, hh⟩ := hP
 have hx := Bd.exec
 have hby := Bd.bytes
 have hml : c.maxLocals = 2 := hml0
 have hown : s.vm.findClass "java/util/Objects" = some m.cls := findClass_of_methodNamed Bd.named
 have hnm := (name_of_methodNamed Bd.named Bd.method).1
 have X0 : Stand p l e (rO 1 0 0 14) s m #[(.int i), (.int n)] below meth c s₁ [] 0 0 := Stand.of_body Bd
 have e0 : s₁.heap = h0 := by rw [← hh, Bd.state]; rfl
 have N0 := Fr.nil n0
 obtain ⟨B_, hB_⟩ : ∃ z, z = s₁.setTop (entryFrame m #[(.int i), (.int n)] 2) := ⟨_, rfl⟩
 have k0 : own_K p e below (s₁.setTop (mkF m 0 #[.val (.int i), .val (.int n)] [])) B_ := by rw [hB_]; exact fun t k => castTop (by clear k; first | (simp [entryFrame, mkF, argsToLocals, Value.category, maxLocals]; done) | rfl) k
 have k1 : own_J p e below s₁ m 3 #[.val (.int i), .val (.int n)] [.null, (.int n), (.int i)] B_ := fun t_ hh => k0 t_ (by
  refine XS.iloadN X0.here hx rfl (hb hby own_h278) rfl ?_
  refine XS.iloadN X0.here hx rfl (hb hby own_h279) rfl ?_
  refine XS.aconstNull X0.here hx rfl (hb hby own_h280) ?_
  exact hh)
 obtain ⟨_, _, ⟨T21, L22, k_23, n_24⟩, -, X25, ⟨Lc26, hQ27, l_28, y_29, z_30⟩, st31⟩ := Jvm.LawKit.callS X0 hx (y := (⟨"jdk/internal/util/Preconditions", "checkIndex", "(IILjava/util/function/BiFunction;)I"⟩ : MethodName)) hown (mvT hZ (wT hw 149 rfl)) (mvT hZ (wT hw 150 rfl)) (mvT hZ (wT hw 151 rfl)) (mvT hZ (wT hw 152 rfl)) (by decide) (backOf (W := 0) (rmPc l Z a0 hw [] i n h0 n0 Z0 hi0 hi1 ) hZ (wT hw 152 rfl) (wT hw 151 rfl) (by decide) (by decide)) (g := (mkF m 3 #[.val (.int i), .val (.int n)] [.null, (.int n), (.int i)])) rfl (by rw [hml]; rfl) (argsL := [(.int i), (.int n), .null]) (rest := []) (lenOf own_h282 rfl) rfl (by show 2 * 0 + _ ≤ _; exact Nat.le_of_eq rfl) (hb hby own_h281) (fun _ _ => ⟨rfl, e0, own_l rfl, own_l rfl⟩)
 dsimp only [Pt.U, Pt.locs, Pt.cells, Pt.slots] at X25 l_28 y_29 z_30 st31 hQ27
 subst l_28 y_29 z_30
 obtain ⟨rfl, N32, e33⟩ := hQ27
 have N34 := Fr.app N0 N32
 have k2 : own_J p e below T21 m 6 #[.val (.int i), .val (.int n)] [(.int i)] B_ := fun t_ hh => k1 t_ (st31 t_ hh)
 obtain ⟨fs, hr, hrun, hended, hW, hsame⟩ := X25.leave (v := some (.int i)) (fun h => by rw [Bd.returns] at h; cases h)
 refine ⟨_, _, (own_from hB_ (k2 _ (retOut X25 hx (t := .int) Bd.returns rfl (Or.inl ⟨rfl, (by simp), _, rfl⟩) (hb hby own_h283) hr))), hrun, hended, _, _, rfl, ?_, ⟨_, rfl⟩, hW, hsame.mono (own_l rfl) (own_l rfl)⟩
 show Q_rmCi Z i n h0 n0 _ T21.heap _
 rw [e33]
 exact ⟨rfl, N34, rfl⟩
def Q_rmEd0 (Z : State) (a : Addr) (ea : Addr) (ke : ClassId) (x : Addr) (vs : List Value) (h0 : Heap) (n0 : Nat) (v : Option Value) (h : Heap) (L : List Loc) : Prop := v = some (.ref x) ∧ Fr n0 L ∧ h = h0
theorem own_h284 : decode jdk_38_method_18_code 0 = .ok (.aload_n 0, 1) := by decide +kernel
theorem own_h285 : decode jdk_38_method_18_code 1 = .ok (.getfield 9, 3) := by decide +kernel
theorem own_h286 : decode jdk_38_method_18_code 4 = .ok (.iload_n 1, 1) := by decide +kernel
theorem own_h287 : decode jdk_38_method_18_code 5 = .ok (.aaload, 1) := by decide +kernel
theorem own_h288 : decode jdk_38_method_18_code 6 = .ok (.areturn, 1) := by decide +kernel
set_option maxRecDepth 65536 in
set_option maxHeartbeats 40000000 in
theorem rmEd0 (l : Launch) (Z : State) (a0 : Array Value) (hw : ∀ d ∈ tables_1, d.before a0 Z = true) (ws : List Jvm.Cond) (a : Addr) (ea : Addr) (ke : ClassId) (x : Addr) (vs : List Value) (h0 : Heap) (n0 : Nat) (Z0 : n0 ≤ h0.size) (f0_ : Fld Z h0 a "java/util/ArrayList" "elementData" "[Ljava/lang/Object;" (.ref ea)) (f1_ : Arv Z h0 ea ke (.object "java/lang/Object") (10 : Int32) vs .null) (hv : vs.getD 0 .null = .ref x)  :
    own_Met l (⟨"java/util/ArrayList", "elementData", "(I)Ljava/lang/Object;"⟩ : MethodName) jdk_38_method_18_code 2 (some (.object "java/lang/Object")) ws (rO 0 0 0 0) #[(.ref a), (.int (0 : Int32))] Z h0 (Q_rmEd0 Z a ea ke x vs h0 n0) := by
 refine MetFree.of_bodySF (plainFor_of_name own_h186) hisR ?_
 intro p e s m args below meth c s₁ Bd hml0 hP hK
 obtain ⟨rfl, hZ, hh⟩ := hP
 have hx := Bd.exec
 have hby := Bd.bytes
 have hml : c.maxLocals = 2 := hml0
 have hown : s.vm.findClass "java/util/ArrayList" = some m.cls := findClass_of_methodNamed Bd.named
 have hnm := (name_of_methodNamed Bd.named Bd.method).1
 have X0 : Stand p l e (rO 0 0 0 0) s m #[(.ref a), (.int (0 : Int32))] below meth c s₁ [] 0 0 := Stand.of_body Bd
 have e0 : s₁.heap = h0 := by rw [← hh, Bd.state]; rfl
 have N0 := Fr.nil n0
 obtain ⟨B_, hB_⟩ : ∃ z, z = s₁.setTop (entryFrame m #[(.ref a), (.int (0 : Int32))] 2) := ⟨_, rfl⟩
 have k0 : own_K p e below (s₁.setTop (mkF m 0 #[.val (.ref a), .val (.int (0 : Int32))] [])) B_ := by rw [hB_]; exact fun t k => castTop (by clear k; first | (simp [entryFrame, mkF, argsToLocals, Value.category, maxLocals]; done) | rfl) k
 have k1 : own_J p e below s₁ m 1 #[.val (.ref a), .val (.int (0 : Int32))] [(.ref a)] B_ := fun t_ hh => k0 t_ (by
  refine XS.aloadN X0.here hx rfl (hb hby own_h284) rfl rfl ?_
  exact hh)
 obtain ⟨T21, X22, e23, st24⟩ := getF X0 hx hZ hown (host := "") (Or.inl (wT hw 49 rfl)) Via.refl e0 f0_ (g := (mkF m 1 #[.val (.ref a), .val (.int (0 : Int32))] [(.ref a)])) rfl rfl (hb hby own_h285)
 have k2 : own_J p e below T21 m 4 #[.val (.ref a), .val (.int (0 : Int32))] [(.ref ea)] B_ := fun t_ hh => k1 t_ (st24 t_ hh)
 obtain ⟨cl25, Ar26, -, S27, Ng28, H29, -⟩ := id f1_
 have hin30 : ¬ ((0 : Int32) < 0 ∨ cl25.slots.size ≤ ((0 : Int32)).toNatClampNeg) := inb_of S27 (by decide)
 have hat31 : cl25.slots[((0 : Int32)).toNatClampNeg]? = some (.ref x) := Has.at H29 hin30 hv
 have k3 : own_J p e below T21 m 6 #[.val (.ref a), .val (.int (0 : Int32))] [(.ref x)] B_ := fun t_ hh => k2 t_ (by
  refine XS.iloadN X22.here hx rfl (hb hby own_h286) rfl ?_
  refine X22.aaload hx (j := (0 : Int32)) (v := (.ref x)) (by rw [e23]; exact Ar26.1) (State.isArrayOf_alike hZ.alike Ar26.2.1) rfl Ar26.2.2 hin30 hat31 (g := (mkF m 5 #[.val (.ref a), .val (.int (0 : Int32))] [(.int (0 : Int32)), (.ref ea)])) rfl rfl (hb hby own_h287) _ ?_
  exact hh)
 obtain ⟨fs, hr, hrun, hended, hW, hsame⟩ := X22.leave (v := some (.ref x)) (fun h => by rw [Bd.returns] at h; cases h)
 refine ⟨_, _, (own_from hB_ (k3 _ (retOut X22 hx (t := .object "java/lang/Object") Bd.returns rfl (Or.inr (Or.inr (Or.inr (Or.inr ⟨rfl, rfl, rfl⟩)))) (hb hby own_h288) hr))), hrun, hended, _, _, rfl, ?_, ⟨_, rfl⟩, hW, hsame.mono (own_l rfl) (own_l rfl)⟩
 show Q_rmEd0 Z a ea ke x vs h0 n0 _ T21.heap _
 rw [e23]
 exact ⟨rfl, N0, rfl⟩
def Q_rmGet0 (Z : State) (a : Addr) (ea : Addr) (ke : ClassId) (x : Addr) (vs : List Value) (sz : Int32) (h0 : Heap) (n0 : Nat) (v : Option Value) (h : Heap) (L : List Loc) : Prop := v = some (.ref x) ∧ Fr n0 L ∧ h = h0
theorem own_h289 : decode jdk_38_method_20_code 0 = .ok (.iload_n 1, 1) := by decide +kernel
theorem own_h290 : decode jdk_38_method_20_code 1 = .ok (.aload_n 0, 1) := by decide +kernel
theorem own_h291 : decode jdk_38_method_20_code 2 = .ok (.getfield 48, 3) := by decide +kernel
theorem own_h292 : decode jdk_38_method_20_code 5 = .ok (.invokestatic 118, 3) := by decide +kernel
theorem own_h293 : decode jdk_38_method_20_code 8 = .ok (.pop, 1) := by decide +kernel
theorem own_h294 : decode jdk_38_method_20_code 9 = .ok (.aload_n 0, 1) := by decide +kernel
theorem own_h295 : decode jdk_38_method_20_code 10 = .ok (.iload_n 1, 1) := by decide +kernel
theorem own_h296 : decode jdk_38_method_20_code 11 = .ok (.invokevirtual 123, 3) := by decide +kernel
theorem own_h297 : parseMethodDescriptor "(I)Ljava/lang/Object;" = some ⟨[.int], some (.object "java/lang/Object")⟩ := by decide +kernel
theorem own_h298 : decode jdk_38_method_20_code 14 = .ok (.areturn, 1) := by decide +kernel
set_option maxRecDepth 65536 in
set_option maxHeartbeats 40000000 in
theorem rmGet0 (l : Launch) (Z : State) (a0 : Array Value) (hw : ∀ d ∈ tables_1, d.before a0 Z = true) (ws : List Jvm.Cond) (a : Addr) (ea : Addr) (ke : ClassId) (x : Addr) (vs : List Value) (sz : Int32) (h0 : Heap) (n0 : Nat) (Z0 : n0 ≤ h0.size) (f0_ : Exa Z h0 a "java/util/ArrayList") (f1_ : Fld Z h0 a "java/util/ArrayList" "size" "I" (.int sz)) (hsz : (0 : Int32) < sz) (f3_ : Fld Z h0 a "java/util/ArrayList" "elementData" "[Ljava/lang/Object;" (.ref ea)) (f4_ : Arv Z h0 ea ke (.object "java/lang/Object") (10 : Int32) vs .null) (hv : vs.getD 0 .null = .ref x)  :
    own_Met l (⟨"java/util/ArrayList", "get", "(I)Ljava/lang/Object;"⟩ : MethodName) jdk_38_method_20_code 2 (some (.object "java/lang/Object")) ws (rO 2 0 0 27) #[(.ref a), (.int (0 : Int32))] Z h0 (Q_rmGet0 Z a ea ke x vs sz h0 n0) := by
 refine MetFree.of_bodySF (plainFor_of_name own_h186) hisR ?_
 intro p e s m args below meth c s₁ Bd hml0 hP hK
 obtain ⟨rfl, hZ, hh⟩ := hP
 have hx := Bd.exec
 have hby := Bd.bytes
 have hml : c.maxLocals = 2 := hml0
 have hown : s.vm.findClass "java/util/ArrayList" = some m.cls := findClass_of_methodNamed Bd.named
 have hnm := (name_of_methodNamed Bd.named Bd.method).1
 have X0 : Stand p l e (rO 2 0 0 27) s m #[(.ref a), (.int (0 : Int32))] below meth c s₁ [] 0 0 := Stand.of_body Bd
 have e0 : s₁.heap = h0 := by rw [← hh, Bd.state]; rfl
 have N0 := Fr.nil n0
 obtain ⟨B_, hB_⟩ : ∃ z, z = s₁.setTop (entryFrame m #[(.ref a), (.int (0 : Int32))] 2) := ⟨_, rfl⟩
 have k0 : own_K p e below (s₁.setTop (mkF m 0 #[.val (.ref a), .val (.int (0 : Int32))] [])) B_ := by rw [hB_]; exact fun t k => castTop (by clear k; first | (simp [entryFrame, mkF, argsToLocals, Value.category, maxLocals]; done) | rfl) k
 have k1 : own_J p e below s₁ m 2 #[.val (.ref a), .val (.int (0 : Int32))] [(.ref a), (.int (0 : Int32))] B_ := fun t_ hh => k0 t_ (by
  refine XS.iloadN X0.here hx rfl (hb hby own_h289) rfl ?_
  refine XS.aloadN X0.here hx rfl (hb hby own_h290) rfl rfl ?_
  exact hh)
 obtain ⟨T21, X22, e23, st24⟩ := getF X0 hx hZ hown (host := "") (Or.inl (wT hw 62 rfl)) Via.refl e0 f1_ (g := (mkF m 2 #[.val (.ref a), .val (.int (0 : Int32))] [(.ref a), (.int (0 : Int32))])) rfl rfl (hb hby own_h291)
 have k2 : own_J p e below T21 m 5 #[.val (.ref a), .val (.int (0 : Int32))] [(.int sz), (.int (0 : Int32))] B_ := fun t_ hh => k1 t_ (st24 t_ hh)
 obtain ⟨_, _, ⟨T25, L26, k_27, n_28⟩, -, X29, ⟨Lc30, hQ31, l_32, y_33, z_34⟩, st35⟩ := Jvm.LawKit.callS X22 hx (y := (⟨"java/util/Objects", "checkIndex", "(II)I"⟩ : MethodName)) hown (mvT hZ (wT hw 145 rfl)) (mvT hZ (wT hw 146 rfl)) (mvT hZ (wT hw 147 rfl)) (mvT hZ (wT hw 148 rfl)) (by decide) (backOf (W := 0) (rmCi l Z a0 hw [] (0 : Int32) sz h0 n0 Z0 (by decide) hsz ) hZ (wT hw 148 rfl) (wT hw 147 rfl) (by decide) (by decide)) (g := (mkF m 5 #[.val (.ref a), .val (.int (0 : Int32))] [(.int sz), (.int (0 : Int32))])) rfl (by rw [hml]; rfl) (argsL := [(.int (0 : Int32)), (.int sz)]) (rest := []) (lenOf own_h214 rfl) rfl (by show 2 * 0 + _ ≤ _; exact Nat.le_of_eq rfl) (hb hby own_h292) (fun _ _ => ⟨rfl, e23, own_l rfl, own_l rfl⟩)
 dsimp only [Pt.U, Pt.locs, Pt.cells, Pt.slots] at X29 l_32 y_33 z_34 st35 hQ31
 subst l_32 y_33 z_34
 obtain ⟨rfl, N36, e37⟩ := hQ31
 have N38 := Fr.app N0 N36
 have k3 : own_J p e below T25 m 8 #[.val (.ref a), .val (.int (0 : Int32))] [(.int (0 : Int32))] B_ := fun t_ hh => k2 t_ (st35 t_ hh)
 have k4 : own_J p e below T25 m 11 #[.val (.ref a), .val (.int (0 : Int32))] [(.int (0 : Int32)), (.ref a)] B_ := fun t_ hh => k3 t_ (by
  refine XS.pop X29.here hx rfl (hb hby own_h293) rfl rfl ?_
  refine XS.aloadN X29.here hx rfl (hb hby own_h294) rfl rfl ?_
  refine XS.iloadN X29.here hx rfl (hb hby own_h295) rfl ?_
  exact hh)
 obtain ⟨cq50, kq51, qa52, qb53, qc54⟩ := isOf hZ e37 f0_
 obtain ⟨_, _, ⟨T39, L40, k_41, n_42⟩, -, X43, ⟨Lc44, hQ45, l_46, y_47, z_48⟩, st49⟩ := X29.virtualBack hx (y := (⟨"java/util/ArrayList", "elementData", "(I)Ljava/lang/Object;"⟩ : MethodName)) (z := (⟨"java/util/ArrayList", "elementData", "(I)Ljava/lang/Object;"⟩ : MethodName)) hown (mvT hZ (wT hw 153 rfl)) (mvT hZ (wT hw 154 rfl)) (notFace_of_selects (args := #[]) (mvT hZ (wT hw 156 rfl))) (mvT hZ (wT hw 156 rfl)) (mvT hZ (wT hw 155 rfl)) (by decide) (backOf (W := 0) (rmEd0 l Z a0 hw [] a ea ke x vs h0 n0 Z0 f3_ f4_ hv ) hZ (wT hw 157 rfl) (wT hw 29 rfl) (by decide) (by decide)) qa52 qc54 (g := (mkF m 11 #[.val (.ref a), .val (.int (0 : Int32))] [(.int (0 : Int32)), (.ref a)])) rfl (by rw [hml]; rfl) (Steps.refl _) (argsL := [(.int (0 : Int32))]) (rest := []) (lenOf own_h297 rfl) rfl (by show 2 * 0 + _ ≤ _; exact Nat.le_of_eq rfl) (hb hby own_h296) (fun _ _ => ⟨rfl, e37, own_l rfl, own_l rfl⟩)
 dsimp only [Pt.U, Pt.locs, Pt.cells, Pt.slots] at X43 l_46 y_47 z_48 st49 hQ45
 subst l_46 y_47 z_48
 obtain ⟨rfl, N55, e56⟩ := hQ45
 have N57 := Fr.app N38 N55
 have k5 : own_J p e below T39 m 14 #[.val (.ref a), .val (.int (0 : Int32))] [(.ref x)] B_ := fun t_ hh => k4 t_ (st49.trans hh)
 obtain ⟨fs, hr, hrun, hended, hW, hsame⟩ := X43.leave (v := some (.ref x)) (fun h => by rw [Bd.returns] at h; cases h)
 refine ⟨_, _, (own_from hB_ (k5 _ (retOut X43 hx (t := .object "java/lang/Object") Bd.returns rfl (Or.inr (Or.inr (Or.inr (Or.inr ⟨rfl, rfl, rfl⟩)))) (hb hby own_h298) hr))), hrun, hended, _, _, rfl, ?_, ⟨_, rfl⟩, hW, hsame.mono (own_l rfl) (own_l rfl)⟩
 show Q_rmGet0 Z a ea ke x vs sz h0 n0 _ T39.heap _
 rw [e56]
 exact ⟨rfl, N57, rfl⟩
def Q_rmEd1 (Z : State) (a : Addr) (ea : Addr) (ke : ClassId) (x : Addr) (vs : List Value) (h0 : Heap) (n0 : Nat) (v : Option Value) (h : Heap) (L : List Loc) : Prop := v = some (.ref x) ∧ Fr n0 L ∧ h = h0
set_option maxRecDepth 65536 in
set_option maxHeartbeats 40000000 in
theorem rmEd1 (l : Launch) (Z : State) (a0 : Array Value) (hw : ∀ d ∈ tables_1, d.before a0 Z = true) (ws : List Jvm.Cond) (a : Addr) (ea : Addr) (ke : ClassId) (x : Addr) (vs : List Value) (h0 : Heap) (n0 : Nat) (Z0 : n0 ≤ h0.size) (f0_ : Fld Z h0 a "java/util/ArrayList" "elementData" "[Ljava/lang/Object;" (.ref ea)) (f1_ : Arv Z h0 ea ke (.object "java/lang/Object") (10 : Int32) vs .null) (hv : vs.getD 1 .null = .ref x)  :
    own_Met l (⟨"java/util/ArrayList", "elementData", "(I)Ljava/lang/Object;"⟩ : MethodName) jdk_38_method_18_code 2 (some (.object "java/lang/Object")) ws (rO 0 0 0 0) #[(.ref a), (.int (1 : Int32))] Z h0 (Q_rmEd1 Z a ea ke x vs h0 n0) := by
 refine MetFree.of_bodySF (plainFor_of_name own_h186) hisR ?_
 intro p e s m args below meth c s₁ Bd hml0 hP hK
 obtain ⟨rfl, hZ, hh⟩ := hP
 have hx := Bd.exec
 have hby := Bd.bytes
 have hml : c.maxLocals = 2 := hml0
 have hown : s.vm.findClass "java/util/ArrayList" = some m.cls := findClass_of_methodNamed Bd.named
 have hnm := (name_of_methodNamed Bd.named Bd.method).1
 have X0 : Stand p l e (rO 0 0 0 0) s m #[(.ref a), (.int (1 : Int32))] below meth c s₁ [] 0 0 := Stand.of_body Bd
 have e0 : s₁.heap = h0 := by rw [← hh, Bd.state]; rfl
 have N0 := Fr.nil n0
 obtain ⟨B_, hB_⟩ : ∃ z, z = s₁.setTop (entryFrame m #[(.ref a), (.int (1 : Int32))] 2) := ⟨_, rfl⟩
 have k0 : own_K p e below (s₁.setTop (mkF m 0 #[.val (.ref a), .val (.int (1 : Int32))] [])) B_ := by rw [hB_]; exact fun t k => castTop (by clear k; first | (simp [entryFrame, mkF, argsToLocals, Value.category, maxLocals]; done) | rfl) k
 have k1 : own_J p e below s₁ m 1 #[.val (.ref a), .val (.int (1 : Int32))] [(.ref a)] B_ := fun t_ hh => k0 t_ (by
  refine XS.aloadN X0.here hx rfl (hb hby own_h284) rfl rfl ?_
  exact hh)
 obtain ⟨T21, X22, e23, st24⟩ := getF X0 hx hZ hown (host := "") (Or.inl (wT hw 49 rfl)) Via.refl e0 f0_ (g := (mkF m 1 #[.val (.ref a), .val (.int (1 : Int32))] [(.ref a)])) rfl rfl (hb hby own_h285)
 have k2 : own_J p e below T21 m 4 #[.val (.ref a), .val (.int (1 : Int32))] [(.ref ea)] B_ := fun t_ hh => k1 t_ (st24 t_ hh)
 obtain ⟨cl25, Ar26, -, S27, Ng28, H29, -⟩ := id f1_
 have hin30 : ¬ ((1 : Int32) < 0 ∨ cl25.slots.size ≤ ((1 : Int32)).toNatClampNeg) := inb_of S27 (by decide)
 have hat31 : cl25.slots[((1 : Int32)).toNatClampNeg]? = some (.ref x) := Has.at H29 hin30 hv
 have k3 : own_J p e below T21 m 6 #[.val (.ref a), .val (.int (1 : Int32))] [(.ref x)] B_ := fun t_ hh => k2 t_ (by
  refine XS.iloadN X22.here hx rfl (hb hby own_h286) rfl ?_
  refine X22.aaload hx (j := (1 : Int32)) (v := (.ref x)) (by rw [e23]; exact Ar26.1) (State.isArrayOf_alike hZ.alike Ar26.2.1) rfl Ar26.2.2 hin30 hat31 (g := (mkF m 5 #[.val (.ref a), .val (.int (1 : Int32))] [(.int (1 : Int32)), (.ref ea)])) rfl rfl (hb hby own_h287) _ ?_
  exact hh)
 obtain ⟨fs, hr, hrun, hended, hW, hsame⟩ := X22.leave (v := some (.ref x)) (fun h => by rw [Bd.returns] at h; cases h)
 refine ⟨_, _, (own_from hB_ (k3 _ (retOut X22 hx (t := .object "java/lang/Object") Bd.returns rfl (Or.inr (Or.inr (Or.inr (Or.inr ⟨rfl, rfl, rfl⟩)))) (hb hby own_h288) hr))), hrun, hended, _, _, rfl, ?_, ⟨_, rfl⟩, hW, hsame.mono (own_l rfl) (own_l rfl)⟩
 show Q_rmEd1 Z a ea ke x vs h0 n0 _ T21.heap _
 rw [e23]
 exact ⟨rfl, N0, rfl⟩
def Q_rmGet1 (Z : State) (a : Addr) (ea : Addr) (ke : ClassId) (x : Addr) (vs : List Value) (sz : Int32) (h0 : Heap) (n0 : Nat) (v : Option Value) (h : Heap) (L : List Loc) : Prop := v = some (.ref x) ∧ Fr n0 L ∧ h = h0
set_option maxRecDepth 65536 in
set_option maxHeartbeats 40000000 in
theorem rmGet1 (l : Launch) (Z : State) (a0 : Array Value) (hw : ∀ d ∈ tables_1, d.before a0 Z = true) (ws : List Jvm.Cond) (a : Addr) (ea : Addr) (ke : ClassId) (x : Addr) (vs : List Value) (sz : Int32) (h0 : Heap) (n0 : Nat) (Z0 : n0 ≤ h0.size) (f0_ : Exa Z h0 a "java/util/ArrayList") (f1_ : Fld Z h0 a "java/util/ArrayList" "size" "I" (.int sz)) (hsz : (1 : Int32) < sz) (f3_ : Fld Z h0 a "java/util/ArrayList" "elementData" "[Ljava/lang/Object;" (.ref ea)) (f4_ : Arv Z h0 ea ke (.object "java/lang/Object") (10 : Int32) vs .null) (hv : vs.getD 1 .null = .ref x)  :
    own_Met l (⟨"java/util/ArrayList", "get", "(I)Ljava/lang/Object;"⟩ : MethodName) jdk_38_method_20_code 2 (some (.object "java/lang/Object")) ws (rO 2 0 0 27) #[(.ref a), (.int (1 : Int32))] Z h0 (Q_rmGet1 Z a ea ke x vs sz h0 n0) := by
 refine MetFree.of_bodySF (plainFor_of_name own_h186) hisR ?_
 intro p e s m args below meth c s₁ Bd hml0 hP hK
 obtain ⟨rfl, hZ, hh⟩ := hP
 have hx := Bd.exec
 have hby := Bd.bytes
 have hml : c.maxLocals = 2 := hml0
 have hown : s.vm.findClass "java/util/ArrayList" = some m.cls := findClass_of_methodNamed Bd.named
 have hnm := (name_of_methodNamed Bd.named Bd.method).1
 have X0 : Stand p l e (rO 2 0 0 27) s m #[(.ref a), (.int (1 : Int32))] below meth c s₁ [] 0 0 := Stand.of_body Bd
 have e0 : s₁.heap = h0 := by rw [← hh, Bd.state]; rfl
 have N0 := Fr.nil n0
 obtain ⟨B_, hB_⟩ : ∃ z, z = s₁.setTop (entryFrame m #[(.ref a), (.int (1 : Int32))] 2) := ⟨_, rfl⟩
 have k0 : own_K p e below (s₁.setTop (mkF m 0 #[.val (.ref a), .val (.int (1 : Int32))] [])) B_ := by rw [hB_]; exact fun t k => castTop (by clear k; first | (simp [entryFrame, mkF, argsToLocals, Value.category, maxLocals]; done) | rfl) k
 have k1 : own_J p e below s₁ m 2 #[.val (.ref a), .val (.int (1 : Int32))] [(.ref a), (.int (1 : Int32))] B_ := fun t_ hh => k0 t_ (by
  refine XS.iloadN X0.here hx rfl (hb hby own_h289) rfl ?_
  refine XS.aloadN X0.here hx rfl (hb hby own_h290) rfl rfl ?_
  exact hh)
 obtain ⟨T21, X22, e23, st24⟩ := getF X0 hx hZ hown (host := "") (Or.inl (wT hw 62 rfl)) Via.refl e0 f1_ (g := (mkF m 2 #[.val (.ref a), .val (.int (1 : Int32))] [(.ref a), (.int (1 : Int32))])) rfl rfl (hb hby own_h291)
 have k2 : own_J p e below T21 m 5 #[.val (.ref a), .val (.int (1 : Int32))] [(.int sz), (.int (1 : Int32))] B_ := fun t_ hh => k1 t_ (st24 t_ hh)
 obtain ⟨_, _, ⟨T25, L26, k_27, n_28⟩, -, X29, ⟨Lc30, hQ31, l_32, y_33, z_34⟩, st35⟩ := Jvm.LawKit.callS X22 hx (y := (⟨"java/util/Objects", "checkIndex", "(II)I"⟩ : MethodName)) hown (mvT hZ (wT hw 145 rfl)) (mvT hZ (wT hw 146 rfl)) (mvT hZ (wT hw 147 rfl)) (mvT hZ (wT hw 148 rfl)) (by decide) (backOf (W := 0) (rmCi l Z a0 hw [] (1 : Int32) sz h0 n0 Z0 (by decide) hsz ) hZ (wT hw 148 rfl) (wT hw 147 rfl) (by decide) (by decide)) (g := (mkF m 5 #[.val (.ref a), .val (.int (1 : Int32))] [(.int sz), (.int (1 : Int32))])) rfl (by rw [hml]; rfl) (argsL := [(.int (1 : Int32)), (.int sz)]) (rest := []) (lenOf own_h214 rfl) rfl (by show 2 * 0 + _ ≤ _; exact Nat.le_of_eq rfl) (hb hby own_h292) (fun _ _ => ⟨rfl, e23, own_l rfl, own_l rfl⟩)
 dsimp only [Pt.U, Pt.locs, Pt.cells, Pt.slots] at X29 l_32 y_33 z_34 st35 hQ31
 subst l_32 y_33 z_34
 obtain ⟨rfl, N36, e37⟩ := hQ31
 have N38 := Fr.app N0 N36
 have k3 : own_J p e below T25 m 8 #[.val (.ref a), .val (.int (1 : Int32))] [(.int (1 : Int32))] B_ := fun t_ hh => k2 t_ (st35 t_ hh)
 have k4 : own_J p e below T25 m 11 #[.val (.ref a), .val (.int (1 : Int32))] [(.int (1 : Int32)), (.ref a)] B_ := fun t_ hh => k3 t_ (by
  refine XS.pop X29.here hx rfl (hb hby own_h293) rfl rfl ?_
  refine XS.aloadN X29.here hx rfl (hb hby own_h294) rfl rfl ?_
  refine XS.iloadN X29.here hx rfl (hb hby own_h295) rfl ?_
  exact hh)
 obtain ⟨cq50, kq51, qa52, qb53, qc54⟩ := isOf hZ e37 f0_
 obtain ⟨_, _, ⟨T39, L40, k_41, n_42⟩, -, X43, ⟨Lc44, hQ45, l_46, y_47, z_48⟩, st49⟩ := X29.virtualBack hx (y := (⟨"java/util/ArrayList", "elementData", "(I)Ljava/lang/Object;"⟩ : MethodName)) (z := (⟨"java/util/ArrayList", "elementData", "(I)Ljava/lang/Object;"⟩ : MethodName)) hown (mvT hZ (wT hw 153 rfl)) (mvT hZ (wT hw 154 rfl)) (notFace_of_selects (args := #[]) (mvT hZ (wT hw 156 rfl))) (mvT hZ (wT hw 156 rfl)) (mvT hZ (wT hw 155 rfl)) (by decide) (backOf (W := 0) (rmEd1 l Z a0 hw [] a ea ke x vs h0 n0 Z0 f3_ f4_ hv ) hZ (wT hw 157 rfl) (wT hw 29 rfl) (by decide) (by decide)) qa52 qc54 (g := (mkF m 11 #[.val (.ref a), .val (.int (1 : Int32))] [(.int (1 : Int32)), (.ref a)])) rfl (by rw [hml]; rfl) (Steps.refl _) (argsL := [(.int (1 : Int32))]) (rest := []) (lenOf own_h297 rfl) rfl (by show 2 * 0 + _ ≤ _; exact Nat.le_of_eq rfl) (hb hby own_h296) (fun _ _ => ⟨rfl, e37, own_l rfl, own_l rfl⟩)
 dsimp only [Pt.U, Pt.locs, Pt.cells, Pt.slots] at X43 l_46 y_47 z_48 st49 hQ45
 subst l_46 y_47 z_48
 obtain ⟨rfl, N55, e56⟩ := hQ45
 have N57 := Fr.app N38 N55
 have k5 : own_J p e below T39 m 14 #[.val (.ref a), .val (.int (1 : Int32))] [(.ref x)] B_ := fun t_ hh => k4 t_ (st49.trans hh)
 obtain ⟨fs, hr, hrun, hended, hW, hsame⟩ := X43.leave (v := some (.ref x)) (fun h => by rw [Bd.returns] at h; cases h)
 refine ⟨_, _, (own_from hB_ (k5 _ (retOut X43 hx (t := .object "java/lang/Object") Bd.returns rfl (Or.inr (Or.inr (Or.inr (Or.inr ⟨rfl, rfl, rfl⟩)))) (hb hby own_h298) hr))), hrun, hended, _, _, rfl, ?_, ⟨_, rfl⟩, hW, hsame.mono (own_l rfl) (own_l rfl)⟩
 show Q_rmGet1 Z a ea ke x vs sz h0 n0 _ T39.heap _
 rw [e56]
 exact ⟨rfl, N57, rfl⟩
def Q_rmEd2 (Z : State) (a : Addr) (ea : Addr) (ke : ClassId) (x : Addr) (vs : List Value) (h0 : Heap) (n0 : Nat) (v : Option Value) (h : Heap) (L : List Loc) : Prop := v = some (.ref x) ∧ Fr n0 L ∧ h = h0
set_option maxRecDepth 65536 in
set_option maxHeartbeats 40000000 in
theorem rmEd2 (l : Launch) (Z : State) (a0 : Array Value) (hw : ∀ d ∈ tables_1, d.before a0 Z = true) (ws : List Jvm.Cond) (a : Addr) (ea : Addr) (ke : ClassId) (x : Addr) (vs : List Value) (h0 : Heap) (n0 : Nat) (Z0 : n0 ≤ h0.size) (f0_ : Fld Z h0 a "java/util/ArrayList" "elementData" "[Ljava/lang/Object;" (.ref ea)) (f1_ : Arv Z h0 ea ke (.object "java/lang/Object") (10 : Int32) vs .null) (hv : vs.getD 2 .null = .ref x)  :
    own_Met l (⟨"java/util/ArrayList", "elementData", "(I)Ljava/lang/Object;"⟩ : MethodName) jdk_38_method_18_code 2 (some (.object "java/lang/Object")) ws (rO 0 0 0 0) #[(.ref a), (.int (2 : Int32))] Z h0 (Q_rmEd2 Z a ea ke x vs h0 n0) := by
 refine MetFree.of_bodySF (plainFor_of_name own_h186) hisR ?_
 intro p e s m args below meth c s₁ Bd hml0 hP hK
 obtain ⟨rfl, hZ, hh⟩ := hP
 have hx := Bd.exec
 have hby := Bd.bytes
 have hml : c.maxLocals = 2 := hml0
 have hown : s.vm.findClass "java/util/ArrayList" = some m.cls := findClass_of_methodNamed Bd.named
 have hnm := (name_of_methodNamed Bd.named Bd.method).1
 have X0 : Stand p l e (rO 0 0 0 0) s m #[(.ref a), (.int (2 : Int32))] below meth c s₁ [] 0 0 := Stand.of_body Bd
 have e0 : s₁.heap = h0 := by rw [← hh, Bd.state]; rfl
 have N0 := Fr.nil n0
 obtain ⟨B_, hB_⟩ : ∃ z, z = s₁.setTop (entryFrame m #[(.ref a), (.int (2 : Int32))] 2) := ⟨_, rfl⟩
 have k0 : own_K p e below (s₁.setTop (mkF m 0 #[.val (.ref a), .val (.int (2 : Int32))] [])) B_ := by rw [hB_]; exact fun t k => castTop (by clear k; first | (simp [entryFrame, mkF, argsToLocals, Value.category, maxLocals]; done) | rfl) k
 have k1 : own_J p e below s₁ m 1 #[.val (.ref a), .val (.int (2 : Int32))] [(.ref a)] B_ := fun t_ hh => k0 t_ (by
  refine XS.aloadN X0.here hx rfl (hb hby own_h284) rfl rfl ?_
  exact hh)
 obtain ⟨T21, X22, e23, st24⟩ := getF X0 hx hZ hown (host := "") (Or.inl (wT hw 49 rfl)) Via.refl e0 f0_ (g := (mkF m 1 #[.val (.ref a), .val (.int (2 : Int32))] [(.ref a)])) rfl rfl (hb hby own_h285)
 have k2 : own_J p e below T21 m 4 #[.val (.ref a), .val (.int (2 : Int32))] [(.ref ea)] B_ := fun t_ hh => k1 t_ (st24 t_ hh)
 obtain ⟨cl25, Ar26, -, S27, Ng28, H29, -⟩ := id f1_
 have hin30 : ¬ ((2 : Int32) < 0 ∨ cl25.slots.size ≤ ((2 : Int32)).toNatClampNeg) := inb_of S27 (by decide)
 have hat31 : cl25.slots[((2 : Int32)).toNatClampNeg]? = some (.ref x) := Has.at H29 hin30 hv
 have k3 : own_J p e below T21 m 6 #[.val (.ref a), .val (.int (2 : Int32))] [(.ref x)] B_ := fun t_ hh => k2 t_ (by
  refine XS.iloadN X22.here hx rfl (hb hby own_h286) rfl ?_
  refine X22.aaload hx (j := (2 : Int32)) (v := (.ref x)) (by rw [e23]; exact Ar26.1) (State.isArrayOf_alike hZ.alike Ar26.2.1) rfl Ar26.2.2 hin30 hat31 (g := (mkF m 5 #[.val (.ref a), .val (.int (2 : Int32))] [(.int (2 : Int32)), (.ref ea)])) rfl rfl (hb hby own_h287) _ ?_
  exact hh)
 obtain ⟨fs, hr, hrun, hended, hW, hsame⟩ := X22.leave (v := some (.ref x)) (fun h => by rw [Bd.returns] at h; cases h)
 refine ⟨_, _, (own_from hB_ (k3 _ (retOut X22 hx (t := .object "java/lang/Object") Bd.returns rfl (Or.inr (Or.inr (Or.inr (Or.inr ⟨rfl, rfl, rfl⟩)))) (hb hby own_h288) hr))), hrun, hended, _, _, rfl, ?_, ⟨_, rfl⟩, hW, hsame.mono (own_l rfl) (own_l rfl)⟩
 show Q_rmEd2 Z a ea ke x vs h0 n0 _ T21.heap _
 rw [e23]
 exact ⟨rfl, N0, rfl⟩
def Q_rmGet2 (Z : State) (a : Addr) (ea : Addr) (ke : ClassId) (x : Addr) (vs : List Value) (sz : Int32) (h0 : Heap) (n0 : Nat) (v : Option Value) (h : Heap) (L : List Loc) : Prop := v = some (.ref x) ∧ Fr n0 L ∧ h = h0
set_option maxRecDepth 65536 in
set_option maxHeartbeats 40000000 in
theorem rmGet2 (l : Launch) (Z : State) (a0 : Array Value) (hw : ∀ d ∈ tables_1, d.before a0 Z = true) (ws : List Jvm.Cond) (a : Addr) (ea : Addr) (ke : ClassId) (x : Addr) (vs : List Value) (sz : Int32) (h0 : Heap) (n0 : Nat) (Z0 : n0 ≤ h0.size) (f0_ : Exa Z h0 a "java/util/ArrayList") (f1_ : Fld Z h0 a "java/util/ArrayList" "size" "I" (.int sz)) (hsz : (2 : Int32) < sz) (f3_ : Fld Z h0 a "java/util/ArrayList" "elementData" "[Ljava/lang/Object;" (.ref ea)) (f4_ : Arv Z h0 ea ke (.object "java/lang/Object") (10 : Int32) vs .null) (hv : vs.getD 2 .null = .ref x)  :
    own_Met l (⟨"java/util/ArrayList", "get", "(I)Ljava/lang/Object;"⟩ : MethodName) jdk_38_method_20_code 2 (some (.object "java/lang/Object")) ws (rO 2 0 0 27) #[(.ref a), (.int (2 : Int32))] Z h0 (Q_rmGet2 Z a ea ke x vs sz h0 n0) := by
 refine MetFree.of_bodySF (plainFor_of_name own_h186) hisR ?_
 intro p e s m args below meth c s₁ Bd hml0 hP hK
 obtain ⟨rfl, hZ, hh⟩ := hP
 have hx := Bd.exec
 have hby := Bd.bytes
 have hml : c.maxLocals = 2 := hml0
 have hown : s.vm.findClass "java/util/ArrayList" = some m.cls := findClass_of_methodNamed Bd.named
 have hnm := (name_of_methodNamed Bd.named Bd.method).1
 have X0 : Stand p l e (rO 2 0 0 27) s m #[(.ref a), (.int (2 : Int32))] below meth c s₁ [] 0 0 := Stand.of_body Bd
 have e0 : s₁.heap = h0 := by rw [← hh, Bd.state]; rfl
 have N0 := Fr.nil n0
 obtain ⟨B_, hB_⟩ : ∃ z, z = s₁.setTop (entryFrame m #[(.ref a), (.int (2 : Int32))] 2) := ⟨_, rfl⟩
 have k0 : own_K p e below (s₁.setTop (mkF m 0 #[.val (.ref a), .val (.int (2 : Int32))] [])) B_ := by rw [hB_]; exact fun t k => castTop (by clear k; first | (simp [entryFrame, mkF, argsToLocals, Value.category, maxLocals]; done) | rfl) k
 have k1 : own_J p e below s₁ m 2 #[.val (.ref a), .val (.int (2 : Int32))] [(.ref a), (.int (2 : Int32))] B_ := fun t_ hh => k0 t_ (by
  refine XS.iloadN X0.here hx rfl (hb hby own_h289) rfl ?_
  refine XS.aloadN X0.here hx rfl (hb hby own_h290) rfl rfl ?_
  exact hh)
 obtain ⟨T21, X22, e23, st24⟩ := getF X0 hx hZ hown (host := "") (Or.inl (wT hw 62 rfl)) Via.refl e0 f1_ (g := (mkF m 2 #[.val (.ref a), .val (.int (2 : Int32))] [(.ref a), (.int (2 : Int32))])) rfl rfl (hb hby own_h291)
 have k2 : own_J p e below T21 m 5 #[.val (.ref a), .val (.int (2 : Int32))] [(.int sz), (.int (2 : Int32))] B_ := fun t_ hh => k1 t_ (st24 t_ hh)
 obtain ⟨_, _, ⟨T25, L26, k_27, n_28⟩, -, X29, ⟨Lc30, hQ31, l_32, y_33, z_34⟩, st35⟩ := Jvm.LawKit.callS X22 hx (y := (⟨"java/util/Objects", "checkIndex", "(II)I"⟩ : MethodName)) hown (mvT hZ (wT hw 145 rfl)) (mvT hZ (wT hw 146 rfl)) (mvT hZ (wT hw 147 rfl)) (mvT hZ (wT hw 148 rfl)) (by decide) (backOf (W := 0) (rmCi l Z a0 hw [] (2 : Int32) sz h0 n0 Z0 (by decide) hsz ) hZ (wT hw 148 rfl) (wT hw 147 rfl) (by decide) (by decide)) (g := (mkF m 5 #[.val (.ref a), .val (.int (2 : Int32))] [(.int sz), (.int (2 : Int32))])) rfl (by rw [hml]; rfl) (argsL := [(.int (2 : Int32)), (.int sz)]) (rest := []) (lenOf own_h214 rfl) rfl (by show 2 * 0 + _ ≤ _; exact Nat.le_of_eq rfl) (hb hby own_h292) (fun _ _ => ⟨rfl, e23, own_l rfl, own_l rfl⟩)
 dsimp only [Pt.U, Pt.locs, Pt.cells, Pt.slots] at X29 l_32 y_33 z_34 st35 hQ31
 subst l_32 y_33 z_34
 obtain ⟨rfl, N36, e37⟩ := hQ31
 have N38 := Fr.app N0 N36
 have k3 : own_J p e below T25 m 8 #[.val (.ref a), .val (.int (2 : Int32))] [(.int (2 : Int32))] B_ := fun t_ hh => k2 t_ (st35 t_ hh)
 have k4 : own_J p e below T25 m 11 #[.val (.ref a), .val (.int (2 : Int32))] [(.int (2 : Int32)), (.ref a)] B_ := fun t_ hh => k3 t_ (by
  refine XS.pop X29.here hx rfl (hb hby own_h293) rfl rfl ?_
  refine XS.aloadN X29.here hx rfl (hb hby own_h294) rfl rfl ?_
  refine XS.iloadN X29.here hx rfl (hb hby own_h295) rfl ?_
  exact hh)
 obtain ⟨cq50, kq51, qa52, qb53, qc54⟩ := isOf hZ e37 f0_
 obtain ⟨_, _, ⟨T39, L40, k_41, n_42⟩, -, X43, ⟨Lc44, hQ45, l_46, y_47, z_48⟩, st49⟩ := X29.virtualBack hx (y := (⟨"java/util/ArrayList", "elementData", "(I)Ljava/lang/Object;"⟩ : MethodName)) (z := (⟨"java/util/ArrayList", "elementData", "(I)Ljava/lang/Object;"⟩ : MethodName)) hown (mvT hZ (wT hw 153 rfl)) (mvT hZ (wT hw 154 rfl)) (notFace_of_selects (args := #[]) (mvT hZ (wT hw 156 rfl))) (mvT hZ (wT hw 156 rfl)) (mvT hZ (wT hw 155 rfl)) (by decide) (backOf (W := 0) (rmEd2 l Z a0 hw [] a ea ke x vs h0 n0 Z0 f3_ f4_ hv ) hZ (wT hw 157 rfl) (wT hw 29 rfl) (by decide) (by decide)) qa52 qc54 (g := (mkF m 11 #[.val (.ref a), .val (.int (2 : Int32))] [(.int (2 : Int32)), (.ref a)])) rfl (by rw [hml]; rfl) (Steps.refl _) (argsL := [(.int (2 : Int32))]) (rest := []) (lenOf own_h297 rfl) rfl (by show 2 * 0 + _ ≤ _; exact Nat.le_of_eq rfl) (hb hby own_h296) (fun _ _ => ⟨rfl, e37, own_l rfl, own_l rfl⟩)
 dsimp only [Pt.U, Pt.locs, Pt.cells, Pt.slots] at X43 l_46 y_47 z_48 st49 hQ45
 subst l_46 y_47 z_48
 obtain ⟨rfl, N55, e56⟩ := hQ45
 have N57 := Fr.app N38 N55
 have k5 : own_J p e below T39 m 14 #[.val (.ref a), .val (.int (2 : Int32))] [(.ref x)] B_ := fun t_ hh => k4 t_ (st49.trans hh)
 obtain ⟨fs, hr, hrun, hended, hW, hsame⟩ := X43.leave (v := some (.ref x)) (fun h => by rw [Bd.returns] at h; cases h)
 refine ⟨_, _, (own_from hB_ (k5 _ (retOut X43 hx (t := .object "java/lang/Object") Bd.returns rfl (Or.inr (Or.inr (Or.inr (Or.inr ⟨rfl, rfl, rfl⟩)))) (hb hby own_h298) hr))), hrun, hended, _, _, rfl, ?_, ⟨_, rfl⟩, hW, hsame.mono (own_l rfl) (own_l rfl)⟩
 show Q_rmGet2 Z a ea ke x vs sz h0 n0 _ T39.heap _
 rw [e56]
 exact ⟨rfl, N57, rfl⟩
def Q_rmRn (Z : State) (x : Addr) (h0 : Heap) (n0 : Nat) (v : Option Value) (h : Heap) (L : List Loc) : Prop := v = some (.ref x) ∧ Fr n0 L ∧ h = h0
theorem own_h299 : decode jdk_31_method_10_code 0 = .ok (.aload_n 0, 1) := by decide +kernel
theorem own_h300 : decode jdk_31_method_10_code 1 = .ok (.ifnonnull 11, 3) := by decide +kernel
theorem own_h301 : decode jdk_31_method_10_code 12 = .ok (.aload_n 0, 1) := by decide +kernel
theorem own_h302 : decode jdk_31_method_10_code 13 = .ok (.areturn, 1) := by decide +kernel
set_option maxRecDepth 65536 in
set_option maxHeartbeats 40000000 in
theorem rmRn (l : Launch) (Z : State) (a0 : Array Value) (hw : ∀ d ∈ tables_1, d.before a0 Z = true) (ws : List Jvm.Cond) (x : Addr) (h0 : Heap) (n0 : Nat) (Z0 : n0 ≤ h0.size)   :
    own_Met l (⟨"java/util/Objects", "requireNonNull", "(Ljava/lang/Object;)Ljava/lang/Object;"⟩ : MethodName) jdk_31_method_10_code 1 (some (.object "java/lang/Object")) ws (rO 0 0 0 0) #[(.ref x)] Z h0 (Q_rmRn Z x h0 n0) := by
 refine MetFree.of_bodySF (plainFor_of_name own_h277) hisR ?_
 intro p e s m args below meth c s₁ Bd hml0 hP hK
 obtain ⟨rfl, hZ, hh⟩ := hP
 have hx := Bd.exec
 have hby := Bd.bytes
 have hml : c.maxLocals = 1 := hml0
 have hown : s.vm.findClass "java/util/Objects" = some m.cls := findClass_of_methodNamed Bd.named
 have hnm := (name_of_methodNamed Bd.named Bd.method).1
 have X0 : Stand p l e (rO 0 0 0 0) s m #[(.ref x)] below meth c s₁ [] 0 0 := Stand.of_body Bd
 have e0 : s₁.heap = h0 := by rw [← hh, Bd.state]; rfl
 have N0 := Fr.nil n0
 obtain ⟨B_, hB_⟩ : ∃ z, z = s₁.setTop (entryFrame m #[(.ref x)] 1) := ⟨_, rfl⟩
 have k0 : own_K p e below (s₁.setTop (mkF m 0 #[.val (.ref x)] [])) B_ := by rw [hB_]; exact fun t k => castTop (by clear k; first | (simp [entryFrame, mkF, argsToLocals, Value.category, maxLocals]; done) | rfl) k
 have k1 : own_J p e below s₁ m 13 #[.val (.ref x)] [(.ref x)] B_ := fun t_ hh => k0 t_ (by
  refine XS.aloadN X0.here hx rfl (hb hby own_h299) rfl rfl ?_
  refine XS.ifnonnullYes X0.here hx rfl (pc0 := 1) (pc' := 12) rfl (hb hby own_h300) rfl (by decide) (by decide) ?_
  refine XS.aloadN X0.here hx rfl (hb hby own_h301) rfl rfl ?_
  exact hh)
 obtain ⟨fs, hr, hrun, hended, hW, hsame⟩ := X0.leave (v := some (.ref x)) (fun h => by rw [Bd.returns] at h; cases h)
 refine ⟨_, _, (own_from hB_ (k1 _ (retOut X0 hx (t := .object "java/lang/Object") Bd.returns rfl (Or.inr (Or.inr (Or.inr (Or.inr ⟨rfl, rfl, rfl⟩)))) (hb hby own_h302) hr))), hrun, hended, _, _, rfl, ?_, ⟨_, rfl⟩, hW, hsame.mono (own_l rfl) (own_l rfl)⟩
 show Q_rmRn Z x h0 n0 _ s₁.heap _
 rw [e0]
 exact ⟨rfl, N0, rfl⟩
def Q_rmMin1 (Z : State)  (h0 : Heap) (n0 : Nat) (v : Option Value) (h : Heap) (L : List Loc) : Prop := v = some (.int (1 : Int32)) ∧ Fr n0 L ∧ h = h0
theorem own_h303 : plainFor (⟨"java/lang/Math", "min", "(II)I"⟩ : MethodName) = true := by decide +kernel
theorem own_h304 : decode jdk_29_method_69_code 0 = .ok (.iload_n 0, 1) := by decide +kernel
theorem own_h305 : decode jdk_29_method_69_code 1 = .ok (.iload_n 1, 1) := by decide +kernel
theorem own_h306 : decode jdk_29_method_69_code 2 = .ok (.if_icmp .gt 7, 3) := by decide +kernel
theorem own_h307 : decode jdk_29_method_69_code 9 = .ok (.iload_n 1, 1) := by decide +kernel
theorem own_h308 : decode jdk_29_method_69_code 10 = .ok (.ireturn, 1) := by decide +kernel
set_option maxRecDepth 65536 in
set_option maxHeartbeats 40000000 in
theorem rmMin1 (l : Launch) (Z : State) (a0 : Array Value) (hw : ∀ d ∈ tables_1, d.before a0 Z = true) (ws : List Jvm.Cond)  (h0 : Heap) (n0 : Nat) (Z0 : n0 ≤ h0.size)   :
    own_Met l (⟨"java/lang/Math", "min", "(II)I"⟩ : MethodName) jdk_29_method_69_code 2 (some .int) ws (rO 0 0 0 0) #[(.int (10 : Int32)), (.int (1 : Int32))] Z h0 (Q_rmMin1 Z  h0 n0) := by
 refine MetFree.of_bodySF own_h303 hisR ?_
 intro p e s m args below meth c s₁ Bd hml0 hP hK
 obtain ⟨rfl, hZ, hh⟩ := hP
 have hx := Bd.exec
 have hby := Bd.bytes
 have hml : c.maxLocals = 2 := hml0
 have hown : s.vm.findClass "java/lang/Math" = some m.cls := findClass_of_methodNamed Bd.named
 have hnm := (name_of_methodNamed Bd.named Bd.method).1
 have X0 : Stand p l e (rO 0 0 0 0) s m #[(.int (10 : Int32)), (.int (1 : Int32))] below meth c s₁ [] 0 0 := Stand.of_body Bd
 have e0 : s₁.heap = h0 := by rw [← hh, Bd.state]; rfl
 have N0 := Fr.nil n0
 obtain ⟨B_, hB_⟩ : ∃ z, z = s₁.setTop (entryFrame m #[(.int (10 : Int32)), (.int (1 : Int32))] 2) := ⟨_, rfl⟩
 have k0 : own_K p e below (s₁.setTop (mkF m 0 #[.val (.int (10 : Int32)), .val (.int (1 : Int32))] [])) B_ := by rw [hB_]; exact fun t k => castTop (by clear k; first | (simp [entryFrame, mkF, argsToLocals, Value.category, maxLocals]; done) | rfl) k
 have k1 : own_J p e below s₁ m 10 #[.val (.int (10 : Int32)), .val (.int (1 : Int32))] [(.int (1 : Int32))] B_ := fun t_ hh => k0 t_ (by
  refine XS.iloadN X0.here hx rfl (hb hby own_h304) rfl ?_
  refine XS.iloadN X0.here hx rfl (hb hby own_h305) rfl ?_
  refine XS.icmpYes X0.here hx rfl (pc0 := 2) (pc' := 9) rfl (hb hby own_h306) rfl (by decide) (by decide) (by decide) ?_
  refine XS.iloadN X0.here hx rfl (hb hby own_h307) rfl ?_
  exact hh)
 obtain ⟨fs, hr, hrun, hended, hW, hsame⟩ := X0.leave (v := some (.int (1 : Int32))) (fun h => by rw [Bd.returns] at h; cases h)
 refine ⟨_, _, (own_from hB_ (k1 _ (retOut X0 hx (t := .int) Bd.returns rfl (Or.inl ⟨rfl, (by simp), _, rfl⟩) (hb hby own_h308) hr))), hrun, hended, _, _, rfl, ?_, ⟨_, rfl⟩, hW, hsame.mono (own_l rfl) (own_l rfl)⟩
 show Q_rmMin1 Z  h0 n0 _ s₁.heap _
 rw [e0]
 exact ⟨rfl, N0, rfl⟩
def Q_rmC31 (Z : State) (ea : Addr) (ke : ClassId) (x0 : Addr) (h0 : Heap) (n0 : Nat) (v : Option Value) (h : Heap) (L : List Loc) : Prop := ∃ r : Addr, ∃ kr : ClassId, v = some (.ref r) ∧ Fr n0 L ∧ Keep h0 h [] ∧ Arv Z h r kr (.object "java/lang/Object") (1 : Int32) [(.ref x0)] .null ∧ Ovr Z kr "java/lang/Object" ∧ n0 ≤ r ∧ h0.size ≤ r ∧ True
theorem own_h309 : plainName "java/util/Arrays" = true := by first | (simp [plainName, overriddenIn]; done) | decide +kernel
theorem own_h310 : decode jdk_65_method_120_code 0 = .ok (.aload_n 2, 1) := by decide +kernel
theorem own_h311 : decode jdk_65_method_120_code 1 = .ok (.ldc 110, 2) := by decide +kernel
theorem own_h312 : decode jdk_65_method_120_code 3 = .ok (.if_acmp .ne 10, 3) := by decide +kernel
theorem own_h313 : decode jdk_65_method_120_code 6 = .ok (.iload_n 1, 1) := by decide +kernel
theorem own_h314 : decode jdk_65_method_120_code 7 = .ok (.anewarray 2, 3) := by decide +kernel
theorem own_h315 : decode jdk_65_method_120_code 10 = .ok (.goto 14, 3) := by decide +kernel
theorem own_h316 : decode jdk_65_method_120_code 24 = .ok (.astore_n 3, 1) := by decide +kernel
theorem own_h317 : decode jdk_65_method_120_code 25 = .ok (.aload_n 0, 1) := by decide +kernel
theorem own_h318 : decode jdk_65_method_120_code 26 = .ok (.iconst 0, 1) := by decide +kernel
theorem own_h319 : decode jdk_65_method_120_code 27 = .ok (.aload_n 3, 1) := by decide +kernel
theorem own_h320 : decode jdk_65_method_120_code 28 = .ok (.iconst 0, 1) := by decide +kernel
theorem own_h321 : decode jdk_65_method_120_code 29 = .ok (.aload_n 0, 1) := by decide +kernel
theorem own_h322 : decode jdk_65_method_120_code 30 = .ok (.arraylength, 1) := by decide +kernel
theorem own_h323 : decode jdk_65_method_120_code 31 = .ok (.iload_n 1, 1) := by decide +kernel
theorem own_h324 : decode jdk_65_method_120_code 32 = .ok (.invokestatic 304, 3) := by decide +kernel
theorem own_h325 : decode jdk_65_method_120_code 35 = .ok (.invokestatic 150, 3) := by decide +kernel
theorem own_h326 : decode jdk_65_method_120_code 38 = .ok (.aload_n 3, 1) := by decide +kernel
theorem own_h327 : decode jdk_65_method_120_code 39 = .ok (.areturn, 1) := by decide +kernel
set_option maxRecDepth 65536 in
set_option maxHeartbeats 40000000 in
theorem rmC31 (l : Launch) (Z : State) (a0 : Array Value) (hw : ∀ d ∈ tables_1, d.before a0 Z = true) (ws : List Jvm.Cond) (ea : Addr) (ke : ClassId) (x0 : Addr) (h0 : Heap) (n0 : Nat) (Z0 : n0 ≤ h0.size) (f0_ : Arv Z h0 ea ke (.object "java/lang/Object") (10 : Int32) [(.ref x0), .null, .null, .null, .null, .null, .null, .null, .null, .null] .null) (f1_ : Exa Z h0 x0 "java/lang/String") (mr : Addr) (hM : own_Mir Z "[Ljava/lang/Object;" mr) :
    own_Met l (⟨"java/util/Arrays", "copyOf", "([Ljava/lang/Object;ILjava/lang/Class;)[Ljava/lang/Object;"⟩ : MethodName) jdk_65_method_120_code 4 (some (.array (.object "java/lang/Object"))) ws (rO 1 1 1 40) #[(.ref ea), (.int (1 : Int32)), (.ref mr)] Z h0 (Q_rmC31 Z ea ke x0 h0 n0) := by
 refine MetFree.of_bodySF (plainFor_of_name own_h309) hisR ?_
 intro p e s m args below meth c s₁ Bd hml0 hP hK
 obtain ⟨rfl, hZ, hh⟩ := hP
 have hx := Bd.exec
 have hby := Bd.bytes
 have hml : c.maxLocals = 4 := hml0
 have hown : s.vm.findClass "java/util/Arrays" = some m.cls := findClass_of_methodNamed Bd.named
 have hnm := (name_of_methodNamed Bd.named Bd.method).1
 have X0 : Stand p l e (rO 1 1 1 40) s m #[(.ref ea), (.int (1 : Int32)), (.ref mr)] below meth c s₁ [] 0 0 := Stand.of_body Bd
 have e0 : s₁.heap = h0 := by rw [← hh, Bd.state]; rfl
 have N0 := Fr.nil n0
 obtain ⟨B_, hB_⟩ : ∃ z, z = s₁.setTop (entryFrame m #[(.ref ea), (.int (1 : Int32)), (.ref mr)] 4) := ⟨_, rfl⟩
 have k0 : own_K p e below (s₁.setTop (mkF m 0 #[.val (.ref ea), .val (.int (1 : Int32)), .val (.ref mr), .unset] [])) B_ := by rw [hB_]; exact fun t k => castTop (by clear k; first | (simp [entryFrame, mkF, argsToLocals, Value.category, maxLocals]; done) | rfl) k
 have K0 : Keep h0 h0 [] := Keep.refl _ _
 have k1 : own_J p e below s₁ m 1 #[.val (.ref ea), .val (.int (1 : Int32)), .val (.ref mr), .unset] [(.ref mr)] B_ := fun t_ hh => k0 t_ (by
  refine XS.aloadN X0.here hx rfl (hb hby own_h310) rfl rfl ?_
  exact hh)
 obtain ⟨T21, X22, e23, st24⟩ := own_ldcM X0 hx hZ hown (wT hw 210 rfl) e0 hM (g := (mkF m 1 #[.val (.ref ea), .val (.int (1 : Int32)), .val (.ref mr), .unset] [(.ref mr)])) rfl (hb hby own_h311)
 have k2 : own_J p e below T21 m 3 #[.val (.ref ea), .val (.int (1 : Int32)), .val (.ref mr), .unset] [(.ref mr), (.ref mr)] B_ := fun t_ hh => k1 t_ (st24 t_ hh)
 have k3 : own_J p e below T21 m 7 #[.val (.ref ea), .val (.int (1 : Int32)), .val (.ref mr), .unset] [(.int (1 : Int32))] B_ := fun t_ hh => k2 t_ (by
  refine RoadKit.acmp X22 hx (g := (mkF m 3 #[.val (.ref ea), .val (.int (1 : Int32)), .val (.ref mr), .unset] [(.ref mr), (.ref mr)])) rfl (x := (.ref mr)) (y := (.ref mr)) rfl rfl (pc0 := 3) (pc' := 6) (same := true) rfl (hb hby own_h312) rfl (by simp) (by decide) (by decide) ?_
  refine XS.iloadN X22.here hx rfl (hb hby own_h313) rfl ?_
  exact hh)
 obtain ⟨T25, h26, kA27, X28, e29, E30, A31, EA34, O32, st33⟩ := newRE X22 hx hZ hown (wT hw 211 rfl) (wT hw 84 rfl) e23 (g := (mkF m 7 #[.val (.ref ea), .val (.int (1 : Int32)), .val (.ref mr), .unset] [(.int (1 : Int32))])) rfl (hb hby own_h314) rfl (by decide) (cap := 1) (by decide) (by decide) (by decide) (by decide) (ad := "[Ljava/lang/Object;") (by decide)
 obtain ⟨a35, g36⟩ : ∃ z, z = h0.size := ⟨_, rfl⟩
 rw [← g36] at A31 EA34 st33
 have H037 : h0.size ≤ a35 := Nat.le_trans K0.1 (Nat.le_of_eq g36.symm)
 have G38 : n0 ≤ a35 := Nat.le_trans Z0 (Nat.le_of_eq g36.symm)
 have F39 := f0_.ext E30
 have F40 := Exa.ext (h' := h26) E30 f1_
 have Z41 : n0 ≤ h26.size := Nat.le_trans Z0 E30.1
 have P42 : Keep h0 h26 [] := K0.ext E30
 have V43 : Arv Z h26 a35 kA27 (.object "java/lang/Object") (1 : Int32) [.null] .null := Arv.pad (Arv.new A31 (by decide)) (pad_rep [] .null 1)
 have k4 : own_J p e below T25 m 10 #[.val (.ref ea), .val (.int (1 : Int32)), .val (.ref mr), .unset] [(.ref a35)] B_ := fun t_ hh => k3 t_ (st33 t_ hh)
 obtain ⟨cl44, Ar45, -, S46, Ng47, -, -⟩ := id F39
 have k5 : own_J p e below T25 m 32 #[.val (.ref ea), .val (.int (1 : Int32)), .val (.ref mr), .val (.ref a35)] [(.int (1 : Int32)), (.int (10 : Int32)), (.int (0 : Int32)), (.ref a35), (.int (0 : Int32)), (.ref ea)] B_ := fun t_ hh => k4 t_ (by
  refine XS.goto X28.here hx rfl (pc0 := 10) (pc' := 24) rfl (hb hby own_h315) (by decide) (by decide) ?_
  refine XS.astoreN X28.here hx rfl (hb hby own_h316) rfl rfl (l' := #[.val (.ref ea), .val (.int (1 : Int32)), .val (.ref mr), .val (.ref a35)]) rfl ?_
  refine XS.aloadN X28.here hx rfl (hb hby own_h317) rfl rfl ?_
  refine XS.iconst X28.here hx rfl (hb hby own_h318) ?_
  refine XS.aloadN X28.here hx rfl (hb hby own_h319) rfl rfl ?_
  refine XS.iconst X28.here hx rfl (hb hby own_h320) ?_
  refine XS.aloadN X28.here hx rfl (hb hby own_h321) rfl rfl ?_
  refine X28.arraylength hx (by rw [e29]; exact Ar45.1) (State.isArrayOf_alike hZ.alike Ar45.2.1) (g := (mkF m 30 #[.val (.ref ea), .val (.int (1 : Int32)), .val (.ref mr), .val (.ref a35)] [(.ref ea), (.int (0 : Int32)), (.ref a35), (.int (0 : Int32)), (.ref ea)])) rfl rfl (hb hby own_h322) _ ?_
  rw [len_of S46 Ng47]
  refine XS.iloadN X28.here hx rfl (hb hby own_h323) rfl ?_
  exact hh)
 obtain ⟨_, _, ⟨T48, L49, k_50, n_51⟩, -, X52, ⟨Lc53, hQ54, l_55, y_56, z_57⟩, st58⟩ := Jvm.LawKit.callS X28 hx (y := (⟨"java/lang/Math", "min", "(II)I"⟩ : MethodName)) hown (mvT hZ (wT hw 212 rfl)) (mvT hZ (wT hw 213 rfl)) (mvT hZ (wT hw 81 rfl)) (mvT hZ (wT hw 214 rfl)) (by decide) (backOf (W := 4) (rmMin1 l Z a0 hw []  h26 n0 Z41  ) hZ (wT hw 214 rfl) (wT hw 81 rfl) (by decide) (by decide)) (g := (mkF m 32 #[.val (.ref ea), .val (.int (1 : Int32)), .val (.ref mr), .val (.ref a35)] [(.int (1 : Int32)), (.int (10 : Int32)), (.int (0 : Int32)), (.ref a35), (.int (0 : Int32)), (.ref ea)])) rfl (by rw [hml]; rfl) (argsL := [(.int (10 : Int32)), (.int (1 : Int32))]) (rest := [(.int (0 : Int32)), (.ref a35), (.int (0 : Int32)), (.ref ea)]) (lenOf own_h214 rfl) rfl (by show 2 * 0 + _ ≤ _; exact Nat.le_of_eq rfl) (hb hby own_h324) (fun _ _ => ⟨rfl, e29, own_l rfl, own_l rfl⟩)
 dsimp only [Pt.U, Pt.locs, Pt.cells, Pt.slots] at X52 l_55 y_56 z_57 st58 hQ54
 subst l_55 y_56 z_57
 obtain ⟨rfl, N59, e60⟩ := hQ54
 have N61 := Fr.app N0 N59
 have k6 : own_J p e below T48 m 35 #[.val (.ref ea), .val (.int (1 : Int32)), .val (.ref mr), .val (.ref a35)] [(.int (1 : Int32)), (.int (0 : Int32)), (.ref a35), (.int (0 : Int32)), (.ref ea)] B_ := fun t_ hh => k5 t_ (st58 t_ hh)
 obtain ⟨cl62, Ar63, q64, -⟩ := id V43
 obtain ⟨T65, h66, L67, X68, e69, N70, K71, F72, st73⟩ := cpA X52 hx hZ hown (wT hw 215 rfl) (wT hw 218 rfl) (wT hw 216 rfl) (wT hw 217 rfl) e60 (sp := (0 : Int32)) (dp := (0 : Int32)) (nn := (1 : Int32)) (us := [(.ref x0)]) F39 V43 (Or.inr ⟨rfl, rfl, ⟨Sto.ofV Ar63 q64 O32 (Ins.of_exa F40 (wT hw 85 rfl)), trivial⟩⟩) (by decide) (by decide) (by decide) (by decide) (by decide) rfl (by decide) N61 G38 (g := (mkF m 35 #[.val (.ref ea), .val (.int (1 : Int32)), .val (.ref mr), .val (.ref a35)] [(.int (1 : Int32)), (.int (0 : Int32)), (.ref a35), (.int (0 : Int32)), (.ref ea)])) rfl (by rw [hml]; rfl) rfl (hb hby own_h325) (by decide) (W := 0) (by show 2 * 0 + _ ≤ _; exact Nat.le_of_eq rfl) (by decide)
 have ne75 : ea ≠ a35 := by rw [g36]; exact Nat.ne_of_lt f0_.lt
 have F74 := F39.keep K71 (ninS ne75 nin0)
 have F76 := F40.keep K71
 have F77 := EA34.keep K71
 have Z78 : n0 ≤ h66.size := Nat.le_trans Z41 K71.1
 have P79 : Keep h0 h66 [] := P42.trans K71 (allS (P := fun x => x ∈ [] ∨ h0.size ≤ x) (Or.inr H037) all0)
 have F80 : Arv Z h66 a35 kA27 (.object "java/lang/Object") (1 : Int32) [(.ref x0)] .null := F72
 have k7 : own_J p e below T65 m 38 #[.val (.ref ea), .val (.int (1 : Int32)), .val (.ref mr), .val (.ref a35)] [] B_ := fun t_ hh => k6 t_ (st73 t_ hh)
 have k8 : own_J p e below T65 m 39 #[.val (.ref ea), .val (.int (1 : Int32)), .val (.ref mr), .val (.ref a35)] [(.ref a35)] B_ := fun t_ hh => k7 t_ (by
  refine XS.aloadN X68.here hx rfl (hb hby own_h326) rfl rfl ?_
  exact hh)
 obtain ⟨fs, hr, hrun, hended, hW, hsame⟩ := X68.leave (v := some (.ref a35)) (fun h => by rw [Bd.returns] at h; cases h)
 refine ⟨_, _, (own_from hB_ (k8 _ (retOut X68 hx (t := .array (.object "java/lang/Object")) Bd.returns rfl (Or.inr (Or.inr (Or.inr (Or.inr ⟨rfl, rfl, rfl⟩)))) (hb hby own_h327) hr))), hrun, hended, _, _, rfl, ?_, ⟨_, rfl⟩, hW, hsame.mono (own_l rfl) (own_l rfl)⟩
 show Q_rmC31 Z ea ke x0 h0 n0 _ T65.heap _
 rw [e69]
 exact ⟨a35, kA27, rfl, N70, P79, F80, O32, G38, H037, trivial⟩
def Q_rmC21 (Z : State) (ea : Addr) (ke : ClassId) (x0 : Addr) (h0 : Heap) (n0 : Nat) (v : Option Value) (h : Heap) (L : List Loc) : Prop := ∃ r : Addr, ∃ kr : ClassId, v = some (.ref r) ∧ Fr n0 L ∧ Keep h0 h [] ∧ Arv Z h r kr (.object "java/lang/Object") (1 : Int32) [(.ref x0)] .null ∧ Ovr Z kr "java/lang/Object" ∧ n0 ≤ r ∧ h0.size ≤ r ∧ True
theorem own_h328 : decode jdk_65_method_119_code 0 = .ok (.aload_n 0, 1) := by decide +kernel
theorem own_h329 : decode jdk_65_method_119_code 1 = .ok (.iload_n 1, 1) := by decide +kernel
theorem own_h330 : decode jdk_65_method_119_code 2 = .ok (.aload_n 0, 1) := by decide +kernel
theorem own_h331 : decode jdk_65_method_119_code 3 = .ok (.invokevirtual 86, 3) := by decide +kernel
theorem own_h332 : decode jdk_65_method_119_code 6 = .ok (.invokestatic 300, 3) := by decide +kernel
theorem own_h333 : parseMethodDescriptor "([Ljava/lang/Object;ILjava/lang/Class;)[Ljava/lang/Object;" = some ⟨[.array (.object "java/lang/Object"), .int, .object "java/lang/Class"], some (.array (.object "java/lang/Object"))⟩ := by decide +kernel
theorem own_h334 : decode jdk_65_method_119_code 9 = .ok (.areturn, 1) := by decide +kernel
set_option maxRecDepth 65536 in
set_option maxHeartbeats 40000000 in
theorem rmC21 (l : Launch) (Z : State) (a0 : Array Value) (hw : ∀ d ∈ tables_1, d.before a0 Z = true) (ws : List Jvm.Cond) (ea : Addr) (ke : ClassId) (x0 : Addr) (h0 : Heap) (n0 : Nat) (Z0 : n0 ≤ h0.size) (f0_ : Exa Z h0 ea "[Ljava/lang/Object;") (f1_ : Arv Z h0 ea ke (.object "java/lang/Object") (10 : Int32) [(.ref x0), .null, .null, .null, .null, .null, .null, .null, .null, .null] .null) (f2_ : Exa Z h0 x0 "java/lang/String") (mr : Addr) (hM : own_Mir Z "[Ljava/lang/Object;" mr) :
    own_Met l (⟨"java/util/Arrays", "copyOf", "([Ljava/lang/Object;I)[Ljava/lang/Object;"⟩ : MethodName) jdk_65_method_119_code 2 (some (.array (.object "java/lang/Object"))) ws (rO 2 1 1 55) #[(.ref ea), (.int (1 : Int32))] Z h0 (Q_rmC21 Z ea ke x0 h0 n0) := by
 refine MetFree.of_bodySF (plainFor_of_name own_h309) hisR ?_
 intro p e s m args below meth c s₁ Bd hml0 hP hK
 obtain ⟨rfl, hZ, hh⟩ := hP
 have hx := Bd.exec
 have hby := Bd.bytes
 have hml : c.maxLocals = 2 := hml0
 have hown : s.vm.findClass "java/util/Arrays" = some m.cls := findClass_of_methodNamed Bd.named
 have hnm := (name_of_methodNamed Bd.named Bd.method).1
 have X0 : Stand p l e (rO 2 1 1 55) s m #[(.ref ea), (.int (1 : Int32))] below meth c s₁ [] 0 0 := Stand.of_body Bd
 have e0 : s₁.heap = h0 := by rw [← hh, Bd.state]; rfl
 have N0 := Fr.nil n0
 obtain ⟨B_, hB_⟩ : ∃ z, z = s₁.setTop (entryFrame m #[(.ref ea), (.int (1 : Int32))] 2) := ⟨_, rfl⟩
 have k0 : own_K p e below (s₁.setTop (mkF m 0 #[.val (.ref ea), .val (.int (1 : Int32))] [])) B_ := by rw [hB_]; exact fun t k => castTop (by clear k; first | (simp [entryFrame, mkF, argsToLocals, Value.category, maxLocals]; done) | rfl) k
 have K0 : Keep h0 h0 [] := Keep.refl _ _
 have k1 : own_J p e below s₁ m 3 #[.val (.ref ea), .val (.int (1 : Int32))] [(.ref ea), (.int (1 : Int32)), (.ref ea)] B_ := fun t_ hh => k0 t_ (by
  refine XS.aloadN X0.here hx rfl (hb hby own_h328) rfl rfl ?_
  refine XS.iloadN X0.here hx rfl (hb hby own_h329) rfl ?_
  refine XS.aloadN X0.here hx rfl (hb hby own_h330) rfl rfl ?_
  exact hh)
 obtain ⟨T21, X22, e23, st24⟩ := own_gcls X0 hx hZ hown (wT hw 201 rfl) (wT hw 202 rfl) (wT hw 178 rfl) (wT hw 204 rfl) (wT hw 203 rfl) (wT hw 205 rfl) e0 f0_ hM (g := (mkF m 3 #[.val (.ref ea), .val (.int (1 : Int32))] [(.ref ea), (.int (1 : Int32)), (.ref ea)])) rfl (by rw [hml]; rfl) rfl (hb hby own_h331) (by decide) (W := 2) (by show 2 * 0 + _ ≤ _; exact Nat.le_of_eq rfl) (by decide)
 have k2 : own_J p e below T21 m 6 #[.val (.ref ea), .val (.int (1 : Int32))] [(.ref mr), (.int (1 : Int32)), (.ref ea)] B_ := fun t_ hh => k1 t_ (st24 t_ hh)
 obtain ⟨_, _, ⟨T25, L26, k_27, n_28⟩, -, X29, ⟨Lc30, hQ31, l_32, y_33, z_34⟩, st35⟩ := Jvm.LawKit.callS X22 hx (y := (⟨"java/util/Arrays", "copyOf", "([Ljava/lang/Object;ILjava/lang/Class;)[Ljava/lang/Object;"⟩ : MethodName)) hown (mvT hZ (wT hw 207 rfl)) (mvT hZ (wT hw 208 rfl)) (mvT hZ (wT hw 199 rfl)) (mvT hZ (wT hw 209 rfl)) (by decide) (backOf (W := 0) (rmC31 l Z a0 hw [] ea ke x0 h0 n0 Z0 f1_ f2_ mr hM) hZ (wT hw 209 rfl) (wT hw 199 rfl) (by decide) (by decide)) (g := (mkF m 6 #[.val (.ref ea), .val (.int (1 : Int32))] [(.ref mr), (.int (1 : Int32)), (.ref ea)])) rfl (by rw [hml]; rfl) (argsL := [(.ref ea), (.int (1 : Int32)), (.ref mr)]) (rest := []) (lenOf own_h333 rfl) rfl (by show 2 * 0 + _ ≤ _; exact Nat.le_of_eq rfl) (hb hby own_h332) (fun _ _ => ⟨rfl, e23, own_l rfl, own_l rfl⟩)
 dsimp only [Pt.U, Pt.locs, Pt.cells, Pt.slots] at X29 l_32 y_33 z_34 st35 hQ31
 subst l_32 y_33 z_34
 obtain ⟨r37, kr38, rfl, N36, K43, F39, F40, F41, F42, -⟩ := hQ31
 have N44 := Fr.app N0 N36
 have H045 : h0.size ≤ r37 := Nat.le_trans K0.1 F42
 have F46 := f0_.keep K43
 have F47 := f1_.keep K43 nin0
 have F48 := f2_.keep K43
 have Z49 : n0 ≤ T25.heap.size := Nat.le_trans Z0 K43.1
 have P50 : Keep h0 T25.heap [] := K0.trans K43 (fun _ q => nomatch q)
 have e51 : T25.heap = T25.heap := rfl
 have k3 : own_J p e below T25 m 9 #[.val (.ref ea), .val (.int (1 : Int32))] [(.ref r37)] B_ := fun t_ hh => k2 t_ (st35 t_ hh)
 obtain ⟨fs, hr, hrun, hended, hW, hsame⟩ := X29.leave (v := some (.ref r37)) (fun h => by rw [Bd.returns] at h; cases h)
 refine ⟨_, _, (own_from hB_ (k3 _ (retOut X29 hx (t := .array (.object "java/lang/Object")) Bd.returns rfl (Or.inr (Or.inr (Or.inr (Or.inr ⟨rfl, rfl, rfl⟩)))) (hb hby own_h334) hr))), hrun, hended, _, _, rfl, ?_, ⟨_, rfl⟩, hW, hsame.mono (own_l rfl) (own_l rfl)⟩
 show Q_rmC21 Z ea ke x0 h0 n0 _ T25.heap _
 rw [e51]
 exact ⟨r37, kr38, rfl, N44, P50, F39, F40, F41, H045, trivial⟩
def Q_rmTa1 (Z : State) (a : Addr) (ea : Addr) (ke : ClassId) (x0 : Addr) (h0 : Heap) (n0 : Nat) (v : Option Value) (h : Heap) (L : List Loc) : Prop := ∃ r : Addr, ∃ kr : ClassId, v = some (.ref r) ∧ Fr n0 L ∧ Keep h0 h [] ∧ Arv Z h r kr (.object "java/lang/Object") (1 : Int32) [(.ref x0)] .null ∧ Ovr Z kr "java/lang/Object" ∧ n0 ≤ r ∧ h0.size ≤ r ∧ True
theorem own_h335 : decode jdk_38_method_16_code 0 = .ok (.aload_n 0, 1) := by decide +kernel
theorem own_h336 : decode jdk_38_method_16_code 1 = .ok (.getfield 9, 3) := by decide +kernel
theorem own_h337 : decode jdk_38_method_16_code 4 = .ok (.aload_n 0, 1) := by decide +kernel
theorem own_h338 : decode jdk_38_method_16_code 5 = .ok (.getfield 48, 3) := by decide +kernel
theorem own_h339 : decode jdk_38_method_16_code 8 = .ok (.invokestatic 66, 3) := by decide +kernel
theorem own_h340 : parseMethodDescriptor "([Ljava/lang/Object;I)[Ljava/lang/Object;" = some ⟨[.array (.object "java/lang/Object"), .int], some (.array (.object "java/lang/Object"))⟩ := by decide +kernel
theorem own_h341 : decode jdk_38_method_16_code 11 = .ok (.areturn, 1) := by decide +kernel
set_option maxRecDepth 65536 in
set_option maxHeartbeats 40000000 in
theorem rmTa1 (l : Launch) (Z : State) (a0 : Array Value) (hw : ∀ d ∈ tables_1, d.before a0 Z = true) (ws : List Jvm.Cond) (a : Addr) (ea : Addr) (ke : ClassId) (x0 : Addr) (h0 : Heap) (n0 : Nat) (Z0 : n0 ≤ h0.size) (f0_ : Fld Z h0 a "java/util/ArrayList" "elementData" "[Ljava/lang/Object;" (.ref ea)) (f1_ : Fld Z h0 a "java/util/ArrayList" "size" "I" (.int (1 : Int32))) (f2_ : Exa Z h0 ea "[Ljava/lang/Object;") (f3_ : Arv Z h0 ea ke (.object "java/lang/Object") (10 : Int32) [(.ref x0), .null, .null, .null, .null, .null, .null, .null, .null, .null] .null) (f4_ : Exa Z h0 x0 "java/lang/String") (mr : Addr) (hM : own_Mir Z "[Ljava/lang/Object;" mr) :
    own_Met l (⟨"java/util/ArrayList", "toArray", "()[Ljava/lang/Object;"⟩ : MethodName) jdk_38_method_16_code 1 (some (.array (.object "java/lang/Object"))) ws (rO 3 1 1 68) #[(.ref a)] Z h0 (Q_rmTa1 Z a ea ke x0 h0 n0) := by
 refine MetFree.of_bodySF (plainFor_of_name own_h186) hisR ?_
 intro p e s m args below meth c s₁ Bd hml0 hP hK
 obtain ⟨rfl, hZ, hh⟩ := hP
 have hx := Bd.exec
 have hby := Bd.bytes
 have hml : c.maxLocals = 1 := hml0
 have hown : s.vm.findClass "java/util/ArrayList" = some m.cls := findClass_of_methodNamed Bd.named
 have hnm := (name_of_methodNamed Bd.named Bd.method).1
 have X0 : Stand p l e (rO 3 1 1 68) s m #[(.ref a)] below meth c s₁ [] 0 0 := Stand.of_body Bd
 have e0 : s₁.heap = h0 := by rw [← hh, Bd.state]; rfl
 have N0 := Fr.nil n0
 obtain ⟨B_, hB_⟩ : ∃ z, z = s₁.setTop (entryFrame m #[(.ref a)] 1) := ⟨_, rfl⟩
 have k0 : own_K p e below (s₁.setTop (mkF m 0 #[.val (.ref a)] [])) B_ := by rw [hB_]; exact fun t k => castTop (by clear k; first | (simp [entryFrame, mkF, argsToLocals, Value.category, maxLocals]; done) | rfl) k
 have K0 : Keep h0 h0 [] := Keep.refl _ _
 have k1 : own_J p e below s₁ m 1 #[.val (.ref a)] [(.ref a)] B_ := fun t_ hh => k0 t_ (by
  refine XS.aloadN X0.here hx rfl (hb hby own_h335) rfl rfl ?_
  exact hh)
 obtain ⟨T21, X22, e23, st24⟩ := getF X0 hx hZ hown (host := "") (Or.inl (wT hw 49 rfl)) Via.refl e0 f0_ (g := (mkF m 1 #[.val (.ref a)] [(.ref a)])) rfl rfl (hb hby own_h336)
 have k2 : own_J p e below T21 m 4 #[.val (.ref a)] [(.ref ea)] B_ := fun t_ hh => k1 t_ (st24 t_ hh)
 have k3 : own_J p e below T21 m 5 #[.val (.ref a)] [(.ref a), (.ref ea)] B_ := fun t_ hh => k2 t_ (by
  refine XS.aloadN X22.here hx rfl (hb hby own_h337) rfl rfl ?_
  exact hh)
 obtain ⟨T25, X26, e27, st28⟩ := getF X22 hx hZ hown (host := "") (Or.inl (wT hw 62 rfl)) Via.refl e23 f1_ (g := (mkF m 5 #[.val (.ref a)] [(.ref a), (.ref ea)])) rfl rfl (hb hby own_h338)
 have k4 : own_J p e below T25 m 8 #[.val (.ref a)] [(.int (1 : Int32)), (.ref ea)] B_ := fun t_ hh => k3 t_ (st28 t_ hh)
 obtain ⟨_, _, ⟨T29, L30, k_31, n_32⟩, -, X33, ⟨Lc34, hQ35, l_36, y_37, z_38⟩, st39⟩ := Jvm.LawKit.callS X26 hx (y := (⟨"java/util/Arrays", "copyOf", "([Ljava/lang/Object;I)[Ljava/lang/Object;"⟩ : MethodName)) hown (mvT hZ (wT hw 197 rfl)) (mvT hZ (wT hw 198 rfl)) (mvT hZ (wT hw 199 rfl)) (mvT hZ (wT hw 200 rfl)) (by decide) (backOf (W := 0) (rmC21 l Z a0 hw [] ea ke x0 h0 n0 Z0 f2_ f3_ f4_ mr hM) hZ (wT hw 200 rfl) (wT hw 199 rfl) (by decide) (by decide)) (g := (mkF m 8 #[.val (.ref a)] [(.int (1 : Int32)), (.ref ea)])) rfl (by rw [hml]; rfl) (argsL := [(.ref ea), (.int (1 : Int32))]) (rest := []) (lenOf own_h340 rfl) rfl (by show 2 * 0 + _ ≤ _; exact Nat.le_of_eq rfl) (hb hby own_h339) (fun _ _ => ⟨rfl, e27, own_l rfl, own_l rfl⟩)
 dsimp only [Pt.U, Pt.locs, Pt.cells, Pt.slots] at X33 l_36 y_37 z_38 st39 hQ35
 subst l_36 y_37 z_38
 obtain ⟨r41, kr42, rfl, N40, K47, F43, F44, F45, F46, -⟩ := hQ35
 have N48 := Fr.app N0 N40
 have H049 : h0.size ≤ r41 := Nat.le_trans K0.1 F46
 have F50 := f0_.keep K47 nin0
 have F51 := f1_.keep K47 nin0
 have F52 := f2_.keep K47
 have F53 := f3_.keep K47 nin0
 have F54 := f4_.keep K47
 have Z55 : n0 ≤ T29.heap.size := Nat.le_trans Z0 K47.1
 have P56 : Keep h0 T29.heap [] := K0.trans K47 (fun _ q => nomatch q)
 have e57 : T29.heap = T29.heap := rfl
 have k5 : own_J p e below T29 m 11 #[.val (.ref a)] [(.ref r41)] B_ := fun t_ hh => k4 t_ (st39 t_ hh)
 obtain ⟨fs, hr, hrun, hended, hW, hsame⟩ := X33.leave (v := some (.ref r41)) (fun h => by rw [Bd.returns] at h; cases h)
 refine ⟨_, _, (own_from hB_ (k5 _ (retOut X33 hx (t := .array (.object "java/lang/Object")) Bd.returns rfl (Or.inr (Or.inr (Or.inr (Or.inr ⟨rfl, rfl, rfl⟩)))) (hb hby own_h341) hr))), hrun, hended, _, _, rfl, ?_, ⟨_, rfl⟩, hW, hsame.mono (own_l rfl) (own_l rfl)⟩
 show Q_rmTa1 Z a ea ke x0 h0 n0 _ T29.heap _
 rw [e57]
 exact ⟨r41, kr42, rfl, N48, P56, F43, F44, F45, H049, trivial⟩
def Q_rmMin2 (Z : State)  (h0 : Heap) (n0 : Nat) (v : Option Value) (h : Heap) (L : List Loc) : Prop := v = some (.int (2 : Int32)) ∧ Fr n0 L ∧ h = h0
set_option maxRecDepth 65536 in
set_option maxHeartbeats 40000000 in
theorem rmMin2 (l : Launch) (Z : State) (a0 : Array Value) (hw : ∀ d ∈ tables_1, d.before a0 Z = true) (ws : List Jvm.Cond)  (h0 : Heap) (n0 : Nat) (Z0 : n0 ≤ h0.size)   :
    own_Met l (⟨"java/lang/Math", "min", "(II)I"⟩ : MethodName) jdk_29_method_69_code 2 (some .int) ws (rO 0 0 0 0) #[(.int (10 : Int32)), (.int (2 : Int32))] Z h0 (Q_rmMin2 Z  h0 n0) := by
 refine MetFree.of_bodySF own_h303 hisR ?_
 intro p e s m args below meth c s₁ Bd hml0 hP hK
 obtain ⟨rfl, hZ, hh⟩ := hP
 have hx := Bd.exec
 have hby := Bd.bytes
 have hml : c.maxLocals = 2 := hml0
 have hown : s.vm.findClass "java/lang/Math" = some m.cls := findClass_of_methodNamed Bd.named
 have hnm := (name_of_methodNamed Bd.named Bd.method).1
 have X0 : Stand p l e (rO 0 0 0 0) s m #[(.int (10 : Int32)), (.int (2 : Int32))] below meth c s₁ [] 0 0 := Stand.of_body Bd
 have e0 : s₁.heap = h0 := by rw [← hh, Bd.state]; rfl
 have N0 := Fr.nil n0
 obtain ⟨B_, hB_⟩ : ∃ z, z = s₁.setTop (entryFrame m #[(.int (10 : Int32)), (.int (2 : Int32))] 2) := ⟨_, rfl⟩
 have k0 : own_K p e below (s₁.setTop (mkF m 0 #[.val (.int (10 : Int32)), .val (.int (2 : Int32))] [])) B_ := by rw [hB_]; exact fun t k => castTop (by clear k; first | (simp [entryFrame, mkF, argsToLocals, Value.category, maxLocals]; done) | rfl) k
 have k1 : own_J p e below s₁ m 10 #[.val (.int (10 : Int32)), .val (.int (2 : Int32))] [(.int (2 : Int32))] B_ := fun t_ hh => k0 t_ (by
  refine XS.iloadN X0.here hx rfl (hb hby own_h304) rfl ?_
  refine XS.iloadN X0.here hx rfl (hb hby own_h305) rfl ?_
  refine XS.icmpYes X0.here hx rfl (pc0 := 2) (pc' := 9) rfl (hb hby own_h306) rfl (by decide) (by decide) (by decide) ?_
  refine XS.iloadN X0.here hx rfl (hb hby own_h307) rfl ?_
  exact hh)
 obtain ⟨fs, hr, hrun, hended, hW, hsame⟩ := X0.leave (v := some (.int (2 : Int32))) (fun h => by rw [Bd.returns] at h; cases h)
 refine ⟨_, _, (own_from hB_ (k1 _ (retOut X0 hx (t := .int) Bd.returns rfl (Or.inl ⟨rfl, (by simp), _, rfl⟩) (hb hby own_h308) hr))), hrun, hended, _, _, rfl, ?_, ⟨_, rfl⟩, hW, hsame.mono (own_l rfl) (own_l rfl)⟩
 show Q_rmMin2 Z  h0 n0 _ s₁.heap _
 rw [e0]
 exact ⟨rfl, N0, rfl⟩
def Q_rmC32 (Z : State) (ea : Addr) (ke : ClassId) (x0 : Addr) (x1 : Addr) (h0 : Heap) (n0 : Nat) (v : Option Value) (h : Heap) (L : List Loc) : Prop := ∃ r : Addr, ∃ kr : ClassId, v = some (.ref r) ∧ Fr n0 L ∧ Keep h0 h [] ∧ Arv Z h r kr (.object "java/lang/Object") (2 : Int32) [(.ref x0), (.ref x1)] .null ∧ Ovr Z kr "java/lang/Object" ∧ n0 ≤ r ∧ h0.size ≤ r ∧ True
set_option maxRecDepth 65536 in
set_option maxHeartbeats 40000000 in
theorem rmC32 (l : Launch) (Z : State) (a0 : Array Value) (hw : ∀ d ∈ tables_1, d.before a0 Z = true) (ws : List Jvm.Cond) (ea : Addr) (ke : ClassId) (x0 : Addr) (x1 : Addr) (h0 : Heap) (n0 : Nat) (Z0 : n0 ≤ h0.size) (f0_ : Arv Z h0 ea ke (.object "java/lang/Object") (10 : Int32) [(.ref x0), (.ref x1), .null, .null, .null, .null, .null, .null, .null, .null] .null) (f1_ : Exa Z h0 x0 "java/lang/String") (f2_ : Exa Z h0 x1 "java/lang/String") (mr : Addr) (hM : own_Mir Z "[Ljava/lang/Object;" mr) :
    own_Met l (⟨"java/util/Arrays", "copyOf", "([Ljava/lang/Object;ILjava/lang/Class;)[Ljava/lang/Object;"⟩ : MethodName) jdk_65_method_120_code 4 (some (.array (.object "java/lang/Object"))) ws (rO 1 1 2 40) #[(.ref ea), (.int (2 : Int32)), (.ref mr)] Z h0 (Q_rmC32 Z ea ke x0 x1 h0 n0) := by
 refine MetFree.of_bodySF (plainFor_of_name own_h309) hisR ?_
 intro p e s m args below meth c s₁ Bd hml0 hP hK
 obtain ⟨rfl, hZ, hh⟩ := hP
 have hx := Bd.exec
 have hby := Bd.bytes
 have hml : c.maxLocals = 4 := hml0
 have hown : s.vm.findClass "java/util/Arrays" = some m.cls := findClass_of_methodNamed Bd.named
 have hnm := (name_of_methodNamed Bd.named Bd.method).1
 have X0 : Stand p l e (rO 1 1 2 40) s m #[(.ref ea), (.int (2 : Int32)), (.ref mr)] below meth c s₁ [] 0 0 := Stand.of_body Bd
 have e0 : s₁.heap = h0 := by rw [← hh, Bd.state]; rfl
 have N0 := Fr.nil n0
 obtain ⟨B_, hB_⟩ : ∃ z, z = s₁.setTop (entryFrame m #[(.ref ea), (.int (2 : Int32)), (.ref mr)] 4) := ⟨_, rfl⟩
 have k0 : own_K p e below (s₁.setTop (mkF m 0 #[.val (.ref ea), .val (.int (2 : Int32)), .val (.ref mr), .unset] [])) B_ := by rw [hB_]; exact fun t k => castTop (by clear k; first | (simp [entryFrame, mkF, argsToLocals, Value.category, maxLocals]; done) | rfl) k
 have K0 : Keep h0 h0 [] := Keep.refl _ _
 have k1 : own_J p e below s₁ m 1 #[.val (.ref ea), .val (.int (2 : Int32)), .val (.ref mr), .unset] [(.ref mr)] B_ := fun t_ hh => k0 t_ (by
  refine XS.aloadN X0.here hx rfl (hb hby own_h310) rfl rfl ?_
  exact hh)
 obtain ⟨T21, X22, e23, st24⟩ := own_ldcM X0 hx hZ hown (wT hw 210 rfl) e0 hM (g := (mkF m 1 #[.val (.ref ea), .val (.int (2 : Int32)), .val (.ref mr), .unset] [(.ref mr)])) rfl (hb hby own_h311)
 have k2 : own_J p e below T21 m 3 #[.val (.ref ea), .val (.int (2 : Int32)), .val (.ref mr), .unset] [(.ref mr), (.ref mr)] B_ := fun t_ hh => k1 t_ (st24 t_ hh)
 have k3 : own_J p e below T21 m 7 #[.val (.ref ea), .val (.int (2 : Int32)), .val (.ref mr), .unset] [(.int (2 : Int32))] B_ := fun t_ hh => k2 t_ (by
  refine RoadKit.acmp X22 hx (g := (mkF m 3 #[.val (.ref ea), .val (.int (2 : Int32)), .val (.ref mr), .unset] [(.ref mr), (.ref mr)])) rfl (x := (.ref mr)) (y := (.ref mr)) rfl rfl (pc0 := 3) (pc' := 6) (same := true) rfl (hb hby own_h312) rfl (by simp) (by decide) (by decide) ?_
  refine XS.iloadN X22.here hx rfl (hb hby own_h313) rfl ?_
  exact hh)
 obtain ⟨T25, h26, kA27, X28, e29, E30, A31, EA34, O32, st33⟩ := newRE X22 hx hZ hown (wT hw 211 rfl) (wT hw 84 rfl) e23 (g := (mkF m 7 #[.val (.ref ea), .val (.int (2 : Int32)), .val (.ref mr), .unset] [(.int (2 : Int32))])) rfl (hb hby own_h314) rfl (by decide) (cap := 2) (by decide) (by decide) (by decide) (by decide) (ad := "[Ljava/lang/Object;") (by decide)
 obtain ⟨a35, g36⟩ : ∃ z, z = h0.size := ⟨_, rfl⟩
 rw [← g36] at A31 EA34 st33
 have H037 : h0.size ≤ a35 := Nat.le_trans K0.1 (Nat.le_of_eq g36.symm)
 have G38 : n0 ≤ a35 := Nat.le_trans Z0 (Nat.le_of_eq g36.symm)
 have F39 := f0_.ext E30
 have F40 := Exa.ext (h' := h26) E30 f1_
 have F41 := Exa.ext (h' := h26) E30 f2_
 have Z42 : n0 ≤ h26.size := Nat.le_trans Z0 E30.1
 have P43 : Keep h0 h26 [] := K0.ext E30
 have V44 : Arv Z h26 a35 kA27 (.object "java/lang/Object") (2 : Int32) [.null, .null] .null := Arv.pad (Arv.new A31 (by decide)) (pad_rep [] .null 2)
 have k4 : own_J p e below T25 m 10 #[.val (.ref ea), .val (.int (2 : Int32)), .val (.ref mr), .unset] [(.ref a35)] B_ := fun t_ hh => k3 t_ (st33 t_ hh)
 obtain ⟨cl45, Ar46, -, S47, Ng48, -, -⟩ := id F39
 have k5 : own_J p e below T25 m 32 #[.val (.ref ea), .val (.int (2 : Int32)), .val (.ref mr), .val (.ref a35)] [(.int (2 : Int32)), (.int (10 : Int32)), (.int (0 : Int32)), (.ref a35), (.int (0 : Int32)), (.ref ea)] B_ := fun t_ hh => k4 t_ (by
  refine XS.goto X28.here hx rfl (pc0 := 10) (pc' := 24) rfl (hb hby own_h315) (by decide) (by decide) ?_
  refine XS.astoreN X28.here hx rfl (hb hby own_h316) rfl rfl (l' := #[.val (.ref ea), .val (.int (2 : Int32)), .val (.ref mr), .val (.ref a35)]) rfl ?_
  refine XS.aloadN X28.here hx rfl (hb hby own_h317) rfl rfl ?_
  refine XS.iconst X28.here hx rfl (hb hby own_h318) ?_
  refine XS.aloadN X28.here hx rfl (hb hby own_h319) rfl rfl ?_
  refine XS.iconst X28.here hx rfl (hb hby own_h320) ?_
  refine XS.aloadN X28.here hx rfl (hb hby own_h321) rfl rfl ?_
  refine X28.arraylength hx (by rw [e29]; exact Ar46.1) (State.isArrayOf_alike hZ.alike Ar46.2.1) (g := (mkF m 30 #[.val (.ref ea), .val (.int (2 : Int32)), .val (.ref mr), .val (.ref a35)] [(.ref ea), (.int (0 : Int32)), (.ref a35), (.int (0 : Int32)), (.ref ea)])) rfl rfl (hb hby own_h322) _ ?_
  rw [len_of S47 Ng48]
  refine XS.iloadN X28.here hx rfl (hb hby own_h323) rfl ?_
  exact hh)
 obtain ⟨_, _, ⟨T49, L50, k_51, n_52⟩, -, X53, ⟨Lc54, hQ55, l_56, y_57, z_58⟩, st59⟩ := Jvm.LawKit.callS X28 hx (y := (⟨"java/lang/Math", "min", "(II)I"⟩ : MethodName)) hown (mvT hZ (wT hw 212 rfl)) (mvT hZ (wT hw 213 rfl)) (mvT hZ (wT hw 81 rfl)) (mvT hZ (wT hw 214 rfl)) (by decide) (backOf (W := 4) (rmMin2 l Z a0 hw []  h26 n0 Z42  ) hZ (wT hw 214 rfl) (wT hw 81 rfl) (by decide) (by decide)) (g := (mkF m 32 #[.val (.ref ea), .val (.int (2 : Int32)), .val (.ref mr), .val (.ref a35)] [(.int (2 : Int32)), (.int (10 : Int32)), (.int (0 : Int32)), (.ref a35), (.int (0 : Int32)), (.ref ea)])) rfl (by rw [hml]; rfl) (argsL := [(.int (10 : Int32)), (.int (2 : Int32))]) (rest := [(.int (0 : Int32)), (.ref a35), (.int (0 : Int32)), (.ref ea)]) (lenOf own_h214 rfl) rfl (by show 2 * 0 + _ ≤ _; exact Nat.le_of_eq rfl) (hb hby own_h324) (fun _ _ => ⟨rfl, e29, own_l rfl, own_l rfl⟩)
 dsimp only [Pt.U, Pt.locs, Pt.cells, Pt.slots] at X53 l_56 y_57 z_58 st59 hQ55
 subst l_56 y_57 z_58
 obtain ⟨rfl, N60, e61⟩ := hQ55
 have N62 := Fr.app N0 N60
 have k6 : own_J p e below T49 m 35 #[.val (.ref ea), .val (.int (2 : Int32)), .val (.ref mr), .val (.ref a35)] [(.int (2 : Int32)), (.int (0 : Int32)), (.ref a35), (.int (0 : Int32)), (.ref ea)] B_ := fun t_ hh => k5 t_ (st59 t_ hh)
 obtain ⟨cl63, Ar64, q65, -⟩ := id V44
 obtain ⟨T66, h67, L68, X69, e70, N71, K72, F73, st74⟩ := cpA X53 hx hZ hown (wT hw 215 rfl) (wT hw 218 rfl) (wT hw 216 rfl) (wT hw 217 rfl) e61 (sp := (0 : Int32)) (dp := (0 : Int32)) (nn := (2 : Int32)) (us := [(.ref x0), (.ref x1)]) F39 V44 (Or.inr ⟨rfl, rfl, ⟨Sto.ofV Ar64 q65 O32 (Ins.of_exa F40 (wT hw 85 rfl)), ⟨Sto.ofV Ar64 q65 O32 (Ins.of_exa F41 (wT hw 85 rfl)), trivial⟩⟩⟩) (by decide) (by decide) (by decide) (by decide) (by decide) rfl (by decide) N62 G38 (g := (mkF m 35 #[.val (.ref ea), .val (.int (2 : Int32)), .val (.ref mr), .val (.ref a35)] [(.int (2 : Int32)), (.int (0 : Int32)), (.ref a35), (.int (0 : Int32)), (.ref ea)])) rfl (by rw [hml]; rfl) rfl (hb hby own_h325) (by decide) (W := 0) (by show 2 * 0 + _ ≤ _; exact Nat.le_of_eq rfl) (by decide)
 have ne76 : ea ≠ a35 := by rw [g36]; exact Nat.ne_of_lt f0_.lt
 have F75 := F39.keep K72 (ninS ne76 nin0)
 have F77 := F40.keep K72
 have F78 := F41.keep K72
 have F79 := EA34.keep K72
 have Z80 : n0 ≤ h67.size := Nat.le_trans Z42 K72.1
 have P81 : Keep h0 h67 [] := P43.trans K72 (allS (P := fun x => x ∈ [] ∨ h0.size ≤ x) (Or.inr H037) all0)
 have F82 : Arv Z h67 a35 kA27 (.object "java/lang/Object") (2 : Int32) [(.ref x0), (.ref x1)] .null := F73
 have k7 : own_J p e below T66 m 38 #[.val (.ref ea), .val (.int (2 : Int32)), .val (.ref mr), .val (.ref a35)] [] B_ := fun t_ hh => k6 t_ (st74 t_ hh)
 have k8 : own_J p e below T66 m 39 #[.val (.ref ea), .val (.int (2 : Int32)), .val (.ref mr), .val (.ref a35)] [(.ref a35)] B_ := fun t_ hh => k7 t_ (by
  refine XS.aloadN X69.here hx rfl (hb hby own_h326) rfl rfl ?_
  exact hh)
 obtain ⟨fs, hr, hrun, hended, hW, hsame⟩ := X69.leave (v := some (.ref a35)) (fun h => by rw [Bd.returns] at h; cases h)
 refine ⟨_, _, (own_from hB_ (k8 _ (retOut X69 hx (t := .array (.object "java/lang/Object")) Bd.returns rfl (Or.inr (Or.inr (Or.inr (Or.inr ⟨rfl, rfl, rfl⟩)))) (hb hby own_h327) hr))), hrun, hended, _, _, rfl, ?_, ⟨_, rfl⟩, hW, hsame.mono (own_l rfl) (own_l rfl)⟩
 show Q_rmC32 Z ea ke x0 x1 h0 n0 _ T66.heap _
 rw [e70]
 exact ⟨a35, kA27, rfl, N71, P81, F82, O32, G38, H037, trivial⟩
def Q_rmC22 (Z : State) (ea : Addr) (ke : ClassId) (x0 : Addr) (x1 : Addr) (h0 : Heap) (n0 : Nat) (v : Option Value) (h : Heap) (L : List Loc) : Prop := ∃ r : Addr, ∃ kr : ClassId, v = some (.ref r) ∧ Fr n0 L ∧ Keep h0 h [] ∧ Arv Z h r kr (.object "java/lang/Object") (2 : Int32) [(.ref x0), (.ref x1)] .null ∧ Ovr Z kr "java/lang/Object" ∧ n0 ≤ r ∧ h0.size ≤ r ∧ True
set_option maxRecDepth 65536 in
set_option maxHeartbeats 40000000 in
theorem rmC22 (l : Launch) (Z : State) (a0 : Array Value) (hw : ∀ d ∈ tables_1, d.before a0 Z = true) (ws : List Jvm.Cond) (ea : Addr) (ke : ClassId) (x0 : Addr) (x1 : Addr) (h0 : Heap) (n0 : Nat) (Z0 : n0 ≤ h0.size) (f0_ : Exa Z h0 ea "[Ljava/lang/Object;") (f1_ : Arv Z h0 ea ke (.object "java/lang/Object") (10 : Int32) [(.ref x0), (.ref x1), .null, .null, .null, .null, .null, .null, .null, .null] .null) (f2_ : Exa Z h0 x0 "java/lang/String") (f3_ : Exa Z h0 x1 "java/lang/String") (mr : Addr) (hM : own_Mir Z "[Ljava/lang/Object;" mr) :
    own_Met l (⟨"java/util/Arrays", "copyOf", "([Ljava/lang/Object;I)[Ljava/lang/Object;"⟩ : MethodName) jdk_65_method_119_code 2 (some (.array (.object "java/lang/Object"))) ws (rO 2 1 2 55) #[(.ref ea), (.int (2 : Int32))] Z h0 (Q_rmC22 Z ea ke x0 x1 h0 n0) := by
 refine MetFree.of_bodySF (plainFor_of_name own_h309) hisR ?_
 intro p e s m args below meth c s₁ Bd hml0 hP hK
 obtain ⟨rfl, hZ, hh⟩ := hP
 have hx := Bd.exec
 have hby := Bd.bytes
 have hml : c.maxLocals = 2 := hml0
 have hown : s.vm.findClass "java/util/Arrays" = some m.cls := findClass_of_methodNamed Bd.named
 have hnm := (name_of_methodNamed Bd.named Bd.method).1
 have X0 : Stand p l e (rO 2 1 2 55) s m #[(.ref ea), (.int (2 : Int32))] below meth c s₁ [] 0 0 := Stand.of_body Bd
 have e0 : s₁.heap = h0 := by rw [← hh, Bd.state]; rfl
 have N0 := Fr.nil n0
 obtain ⟨B_, hB_⟩ : ∃ z, z = s₁.setTop (entryFrame m #[(.ref ea), (.int (2 : Int32))] 2) := ⟨_, rfl⟩
 have k0 : own_K p e below (s₁.setTop (mkF m 0 #[.val (.ref ea), .val (.int (2 : Int32))] [])) B_ := by rw [hB_]; exact fun t k => castTop (by clear k; first | (simp [entryFrame, mkF, argsToLocals, Value.category, maxLocals]; done) | rfl) k
 have K0 : Keep h0 h0 [] := Keep.refl _ _
 have k1 : own_J p e below s₁ m 3 #[.val (.ref ea), .val (.int (2 : Int32))] [(.ref ea), (.int (2 : Int32)), (.ref ea)] B_ := fun t_ hh => k0 t_ (by
  refine XS.aloadN X0.here hx rfl (hb hby own_h328) rfl rfl ?_
  refine XS.iloadN X0.here hx rfl (hb hby own_h329) rfl ?_
  refine XS.aloadN X0.here hx rfl (hb hby own_h330) rfl rfl ?_
  exact hh)
 obtain ⟨T21, X22, e23, st24⟩ := own_gcls X0 hx hZ hown (wT hw 201 rfl) (wT hw 202 rfl) (wT hw 178 rfl) (wT hw 204 rfl) (wT hw 203 rfl) (wT hw 205 rfl) e0 f0_ hM (g := (mkF m 3 #[.val (.ref ea), .val (.int (2 : Int32))] [(.ref ea), (.int (2 : Int32)), (.ref ea)])) rfl (by rw [hml]; rfl) rfl (hb hby own_h331) (by decide) (W := 2) (by show 2 * 0 + _ ≤ _; exact Nat.le_of_eq rfl) (by decide)
 have k2 : own_J p e below T21 m 6 #[.val (.ref ea), .val (.int (2 : Int32))] [(.ref mr), (.int (2 : Int32)), (.ref ea)] B_ := fun t_ hh => k1 t_ (st24 t_ hh)
 obtain ⟨_, _, ⟨T25, L26, k_27, n_28⟩, -, X29, ⟨Lc30, hQ31, l_32, y_33, z_34⟩, st35⟩ := Jvm.LawKit.callS X22 hx (y := (⟨"java/util/Arrays", "copyOf", "([Ljava/lang/Object;ILjava/lang/Class;)[Ljava/lang/Object;"⟩ : MethodName)) hown (mvT hZ (wT hw 207 rfl)) (mvT hZ (wT hw 208 rfl)) (mvT hZ (wT hw 199 rfl)) (mvT hZ (wT hw 209 rfl)) (by decide) (backOf (W := 0) (rmC32 l Z a0 hw [] ea ke x0 x1 h0 n0 Z0 f1_ f2_ f3_ mr hM) hZ (wT hw 209 rfl) (wT hw 199 rfl) (by decide) (by decide)) (g := (mkF m 6 #[.val (.ref ea), .val (.int (2 : Int32))] [(.ref mr), (.int (2 : Int32)), (.ref ea)])) rfl (by rw [hml]; rfl) (argsL := [(.ref ea), (.int (2 : Int32)), (.ref mr)]) (rest := []) (lenOf own_h333 rfl) rfl (by show 2 * 0 + _ ≤ _; exact Nat.le_of_eq rfl) (hb hby own_h332) (fun _ _ => ⟨rfl, e23, own_l rfl, own_l rfl⟩)
 dsimp only [Pt.U, Pt.locs, Pt.cells, Pt.slots] at X29 l_32 y_33 z_34 st35 hQ31
 subst l_32 y_33 z_34
 obtain ⟨r37, kr38, rfl, N36, K43, F39, F40, F41, F42, -⟩ := hQ31
 have N44 := Fr.app N0 N36
 have H045 : h0.size ≤ r37 := Nat.le_trans K0.1 F42
 have F46 := f0_.keep K43
 have F47 := f1_.keep K43 nin0
 have F48 := f2_.keep K43
 have F49 := f3_.keep K43
 have Z50 : n0 ≤ T25.heap.size := Nat.le_trans Z0 K43.1
 have P51 : Keep h0 T25.heap [] := K0.trans K43 (fun _ q => nomatch q)
 have e52 : T25.heap = T25.heap := rfl
 have k3 : own_J p e below T25 m 9 #[.val (.ref ea), .val (.int (2 : Int32))] [(.ref r37)] B_ := fun t_ hh => k2 t_ (st35 t_ hh)
 obtain ⟨fs, hr, hrun, hended, hW, hsame⟩ := X29.leave (v := some (.ref r37)) (fun h => by rw [Bd.returns] at h; cases h)
 refine ⟨_, _, (own_from hB_ (k3 _ (retOut X29 hx (t := .array (.object "java/lang/Object")) Bd.returns rfl (Or.inr (Or.inr (Or.inr (Or.inr ⟨rfl, rfl, rfl⟩)))) (hb hby own_h334) hr))), hrun, hended, _, _, rfl, ?_, ⟨_, rfl⟩, hW, hsame.mono (own_l rfl) (own_l rfl)⟩
 show Q_rmC22 Z ea ke x0 x1 h0 n0 _ T25.heap _
 rw [e52]
 exact ⟨r37, kr38, rfl, N44, P51, F39, F40, F41, H045, trivial⟩
def Q_rmTa2 (Z : State) (a : Addr) (ea : Addr) (ke : ClassId) (x0 : Addr) (x1 : Addr) (h0 : Heap) (n0 : Nat) (v : Option Value) (h : Heap) (L : List Loc) : Prop := ∃ r : Addr, ∃ kr : ClassId, v = some (.ref r) ∧ Fr n0 L ∧ Keep h0 h [] ∧ Arv Z h r kr (.object "java/lang/Object") (2 : Int32) [(.ref x0), (.ref x1)] .null ∧ Ovr Z kr "java/lang/Object" ∧ n0 ≤ r ∧ h0.size ≤ r ∧ True
set_option maxRecDepth 65536 in
set_option maxHeartbeats 40000000 in
theorem rmTa2 (l : Launch) (Z : State) (a0 : Array Value) (hw : ∀ d ∈ tables_1, d.before a0 Z = true) (ws : List Jvm.Cond) (a : Addr) (ea : Addr) (ke : ClassId) (x0 : Addr) (x1 : Addr) (h0 : Heap) (n0 : Nat) (Z0 : n0 ≤ h0.size) (f0_ : Fld Z h0 a "java/util/ArrayList" "elementData" "[Ljava/lang/Object;" (.ref ea)) (f1_ : Fld Z h0 a "java/util/ArrayList" "size" "I" (.int (2 : Int32))) (f2_ : Exa Z h0 ea "[Ljava/lang/Object;") (f3_ : Arv Z h0 ea ke (.object "java/lang/Object") (10 : Int32) [(.ref x0), (.ref x1), .null, .null, .null, .null, .null, .null, .null, .null] .null) (f4_ : Exa Z h0 x0 "java/lang/String") (f5_ : Exa Z h0 x1 "java/lang/String") (mr : Addr) (hM : own_Mir Z "[Ljava/lang/Object;" mr) :
    own_Met l (⟨"java/util/ArrayList", "toArray", "()[Ljava/lang/Object;"⟩ : MethodName) jdk_38_method_16_code 1 (some (.array (.object "java/lang/Object"))) ws (rO 3 1 2 68) #[(.ref a)] Z h0 (Q_rmTa2 Z a ea ke x0 x1 h0 n0) := by
 refine MetFree.of_bodySF (plainFor_of_name own_h186) hisR ?_
 intro p e s m args below meth c s₁ Bd hml0 hP hK
 obtain ⟨rfl, hZ, hh⟩ := hP
 have hx := Bd.exec
 have hby := Bd.bytes
 have hml : c.maxLocals = 1 := hml0
 have hown : s.vm.findClass "java/util/ArrayList" = some m.cls := findClass_of_methodNamed Bd.named
 have hnm := (name_of_methodNamed Bd.named Bd.method).1
 have X0 : Stand p l e (rO 3 1 2 68) s m #[(.ref a)] below meth c s₁ [] 0 0 := Stand.of_body Bd
 have e0 : s₁.heap = h0 := by rw [← hh, Bd.state]; rfl
 have N0 := Fr.nil n0
 obtain ⟨B_, hB_⟩ : ∃ z, z = s₁.setTop (entryFrame m #[(.ref a)] 1) := ⟨_, rfl⟩
 have k0 : own_K p e below (s₁.setTop (mkF m 0 #[.val (.ref a)] [])) B_ := by rw [hB_]; exact fun t k => castTop (by clear k; first | (simp [entryFrame, mkF, argsToLocals, Value.category, maxLocals]; done) | rfl) k
 have K0 : Keep h0 h0 [] := Keep.refl _ _
 have k1 : own_J p e below s₁ m 1 #[.val (.ref a)] [(.ref a)] B_ := fun t_ hh => k0 t_ (by
  refine XS.aloadN X0.here hx rfl (hb hby own_h335) rfl rfl ?_
  exact hh)
 obtain ⟨T21, X22, e23, st24⟩ := getF X0 hx hZ hown (host := "") (Or.inl (wT hw 49 rfl)) Via.refl e0 f0_ (g := (mkF m 1 #[.val (.ref a)] [(.ref a)])) rfl rfl (hb hby own_h336)
 have k2 : own_J p e below T21 m 4 #[.val (.ref a)] [(.ref ea)] B_ := fun t_ hh => k1 t_ (st24 t_ hh)
 have k3 : own_J p e below T21 m 5 #[.val (.ref a)] [(.ref a), (.ref ea)] B_ := fun t_ hh => k2 t_ (by
  refine XS.aloadN X22.here hx rfl (hb hby own_h337) rfl rfl ?_
  exact hh)
 obtain ⟨T25, X26, e27, st28⟩ := getF X22 hx hZ hown (host := "") (Or.inl (wT hw 62 rfl)) Via.refl e23 f1_ (g := (mkF m 5 #[.val (.ref a)] [(.ref a), (.ref ea)])) rfl rfl (hb hby own_h338)
 have k4 : own_J p e below T25 m 8 #[.val (.ref a)] [(.int (2 : Int32)), (.ref ea)] B_ := fun t_ hh => k3 t_ (st28 t_ hh)
 obtain ⟨_, _, ⟨T29, L30, k_31, n_32⟩, -, X33, ⟨Lc34, hQ35, l_36, y_37, z_38⟩, st39⟩ := Jvm.LawKit.callS X26 hx (y := (⟨"java/util/Arrays", "copyOf", "([Ljava/lang/Object;I)[Ljava/lang/Object;"⟩ : MethodName)) hown (mvT hZ (wT hw 197 rfl)) (mvT hZ (wT hw 198 rfl)) (mvT hZ (wT hw 199 rfl)) (mvT hZ (wT hw 200 rfl)) (by decide) (backOf (W := 0) (rmC22 l Z a0 hw [] ea ke x0 x1 h0 n0 Z0 f2_ f3_ f4_ f5_ mr hM) hZ (wT hw 200 rfl) (wT hw 199 rfl) (by decide) (by decide)) (g := (mkF m 8 #[.val (.ref a)] [(.int (2 : Int32)), (.ref ea)])) rfl (by rw [hml]; rfl) (argsL := [(.ref ea), (.int (2 : Int32))]) (rest := []) (lenOf own_h340 rfl) rfl (by show 2 * 0 + _ ≤ _; exact Nat.le_of_eq rfl) (hb hby own_h339) (fun _ _ => ⟨rfl, e27, own_l rfl, own_l rfl⟩)
 dsimp only [Pt.U, Pt.locs, Pt.cells, Pt.slots] at X33 l_36 y_37 z_38 st39 hQ35
 subst l_36 y_37 z_38
 obtain ⟨r41, kr42, rfl, N40, K47, F43, F44, F45, F46, -⟩ := hQ35
 have N48 := Fr.app N0 N40
 have H049 : h0.size ≤ r41 := Nat.le_trans K0.1 F46
 have F50 := f0_.keep K47 nin0
 have F51 := f1_.keep K47 nin0
 have F52 := f2_.keep K47
 have F53 := f3_.keep K47 nin0
 have F54 := f4_.keep K47
 have F55 := f5_.keep K47
 have Z56 : n0 ≤ T29.heap.size := Nat.le_trans Z0 K47.1
 have P57 : Keep h0 T29.heap [] := K0.trans K47 (fun _ q => nomatch q)
 have e58 : T29.heap = T29.heap := rfl
 have k5 : own_J p e below T29 m 11 #[.val (.ref a)] [(.ref r41)] B_ := fun t_ hh => k4 t_ (st39 t_ hh)
 obtain ⟨fs, hr, hrun, hended, hW, hsame⟩ := X33.leave (v := some (.ref r41)) (fun h => by rw [Bd.returns] at h; cases h)
 refine ⟨_, _, (own_from hB_ (k5 _ (retOut X33 hx (t := .array (.object "java/lang/Object")) Bd.returns rfl (Or.inr (Or.inr (Or.inr (Or.inr ⟨rfl, rfl, rfl⟩)))) (hb hby own_h341) hr))), hrun, hended, _, _, rfl, ?_, ⟨_, rfl⟩, hW, hsame.mono (own_l rfl) (own_l rfl)⟩
 show Q_rmTa2 Z a ea ke x0 x1 h0 n0 _ T29.heap _
 rw [e58]
 exact ⟨r41, kr42, rfl, N48, P57, F43, F44, F45, H049, trivial⟩
def Q_rmMin3 (Z : State)  (h0 : Heap) (n0 : Nat) (v : Option Value) (h : Heap) (L : List Loc) : Prop := v = some (.int (3 : Int32)) ∧ Fr n0 L ∧ h = h0
set_option maxRecDepth 65536 in
set_option maxHeartbeats 40000000 in
theorem rmMin3 (l : Launch) (Z : State) (a0 : Array Value) (hw : ∀ d ∈ tables_1, d.before a0 Z = true) (ws : List Jvm.Cond)  (h0 : Heap) (n0 : Nat) (Z0 : n0 ≤ h0.size)   :
    own_Met l (⟨"java/lang/Math", "min", "(II)I"⟩ : MethodName) jdk_29_method_69_code 2 (some .int) ws (rO 0 0 0 0) #[(.int (10 : Int32)), (.int (3 : Int32))] Z h0 (Q_rmMin3 Z  h0 n0) := by
 refine MetFree.of_bodySF own_h303 hisR ?_
 intro p e s m args below meth c s₁ Bd hml0 hP hK
 obtain ⟨rfl, hZ, hh⟩ := hP
 have hx := Bd.exec
 have hby := Bd.bytes
 have hml : c.maxLocals = 2 := hml0
 have hown : s.vm.findClass "java/lang/Math" = some m.cls := findClass_of_methodNamed Bd.named
 have hnm := (name_of_methodNamed Bd.named Bd.method).1
 have X0 : Stand p l e (rO 0 0 0 0) s m #[(.int (10 : Int32)), (.int (3 : Int32))] below meth c s₁ [] 0 0 := Stand.of_body Bd
 have e0 : s₁.heap = h0 := by rw [← hh, Bd.state]; rfl
 have N0 := Fr.nil n0
 obtain ⟨B_, hB_⟩ : ∃ z, z = s₁.setTop (entryFrame m #[(.int (10 : Int32)), (.int (3 : Int32))] 2) := ⟨_, rfl⟩
 have k0 : own_K p e below (s₁.setTop (mkF m 0 #[.val (.int (10 : Int32)), .val (.int (3 : Int32))] [])) B_ := by rw [hB_]; exact fun t k => castTop (by clear k; first | (simp [entryFrame, mkF, argsToLocals, Value.category, maxLocals]; done) | rfl) k
 have k1 : own_J p e below s₁ m 10 #[.val (.int (10 : Int32)), .val (.int (3 : Int32))] [(.int (3 : Int32))] B_ := fun t_ hh => k0 t_ (by
  refine XS.iloadN X0.here hx rfl (hb hby own_h304) rfl ?_
  refine XS.iloadN X0.here hx rfl (hb hby own_h305) rfl ?_
  refine XS.icmpYes X0.here hx rfl (pc0 := 2) (pc' := 9) rfl (hb hby own_h306) rfl (by decide) (by decide) (by decide) ?_
  refine XS.iloadN X0.here hx rfl (hb hby own_h307) rfl ?_
  exact hh)
 obtain ⟨fs, hr, hrun, hended, hW, hsame⟩ := X0.leave (v := some (.int (3 : Int32))) (fun h => by rw [Bd.returns] at h; cases h)
 refine ⟨_, _, (own_from hB_ (k1 _ (retOut X0 hx (t := .int) Bd.returns rfl (Or.inl ⟨rfl, (by simp), _, rfl⟩) (hb hby own_h308) hr))), hrun, hended, _, _, rfl, ?_, ⟨_, rfl⟩, hW, hsame.mono (own_l rfl) (own_l rfl)⟩
 show Q_rmMin3 Z  h0 n0 _ s₁.heap _
 rw [e0]
 exact ⟨rfl, N0, rfl⟩
def Q_rmC33 (Z : State) (ea : Addr) (ke : ClassId) (x0 : Addr) (x1 : Addr) (x2 : Addr) (h0 : Heap) (n0 : Nat) (v : Option Value) (h : Heap) (L : List Loc) : Prop := ∃ r : Addr, ∃ kr : ClassId, v = some (.ref r) ∧ Fr n0 L ∧ Keep h0 h [] ∧ Arv Z h r kr (.object "java/lang/Object") (3 : Int32) [(.ref x0), (.ref x1), (.ref x2)] .null ∧ Ovr Z kr "java/lang/Object" ∧ n0 ≤ r ∧ h0.size ≤ r ∧ True
set_option maxRecDepth 65536 in
set_option maxHeartbeats 40000000 in
theorem rmC33 (l : Launch) (Z : State) (a0 : Array Value) (hw : ∀ d ∈ tables_1, d.before a0 Z = true) (ws : List Jvm.Cond) (ea : Addr) (ke : ClassId) (x0 : Addr) (x1 : Addr) (x2 : Addr) (h0 : Heap) (n0 : Nat) (Z0 : n0 ≤ h0.size) (f0_ : Arv Z h0 ea ke (.object "java/lang/Object") (10 : Int32) [(.ref x0), (.ref x1), (.ref x2), .null, .null, .null, .null, .null, .null, .null] .null) (f1_ : Exa Z h0 x0 "java/lang/String") (f2_ : Exa Z h0 x1 "java/lang/String") (f3_ : Exa Z h0 x2 "java/lang/String") (mr : Addr) (hM : own_Mir Z "[Ljava/lang/Object;" mr) :
    own_Met l (⟨"java/util/Arrays", "copyOf", "([Ljava/lang/Object;ILjava/lang/Class;)[Ljava/lang/Object;"⟩ : MethodName) jdk_65_method_120_code 4 (some (.array (.object "java/lang/Object"))) ws (rO 1 1 3 40) #[(.ref ea), (.int (3 : Int32)), (.ref mr)] Z h0 (Q_rmC33 Z ea ke x0 x1 x2 h0 n0) := by
 refine MetFree.of_bodySF (plainFor_of_name own_h309) hisR ?_
 intro p e s m args below meth c s₁ Bd hml0 hP hK
 obtain ⟨rfl, hZ, hh⟩ := hP
 have hx := Bd.exec
 have hby := Bd.bytes
 have hml : c.maxLocals = 4 := hml0
 have hown : s.vm.findClass "java/util/Arrays" = some m.cls := findClass_of_methodNamed Bd.named
 have hnm := (name_of_methodNamed Bd.named Bd.method).1
 have X0 : Stand p l e (rO 1 1 3 40) s m #[(.ref ea), (.int (3 : Int32)), (.ref mr)] below meth c s₁ [] 0 0 := Stand.of_body Bd
 have e0 : s₁.heap = h0 := by rw [← hh, Bd.state]; rfl
 have N0 := Fr.nil n0
 obtain ⟨B_, hB_⟩ : ∃ z, z = s₁.setTop (entryFrame m #[(.ref ea), (.int (3 : Int32)), (.ref mr)] 4) := ⟨_, rfl⟩
 have k0 : own_K p e below (s₁.setTop (mkF m 0 #[.val (.ref ea), .val (.int (3 : Int32)), .val (.ref mr), .unset] [])) B_ := by rw [hB_]; exact fun t k => castTop (by clear k; first | (simp [entryFrame, mkF, argsToLocals, Value.category, maxLocals]; done) | rfl) k
 have K0 : Keep h0 h0 [] := Keep.refl _ _
 have k1 : own_J p e below s₁ m 1 #[.val (.ref ea), .val (.int (3 : Int32)), .val (.ref mr), .unset] [(.ref mr)] B_ := fun t_ hh => k0 t_ (by
  refine XS.aloadN X0.here hx rfl (hb hby own_h310) rfl rfl ?_
  exact hh)
 obtain ⟨T21, X22, e23, st24⟩ := own_ldcM X0 hx hZ hown (wT hw 210 rfl) e0 hM (g := (mkF m 1 #[.val (.ref ea), .val (.int (3 : Int32)), .val (.ref mr), .unset] [(.ref mr)])) rfl (hb hby own_h311)
 have k2 : own_J p e below T21 m 3 #[.val (.ref ea), .val (.int (3 : Int32)), .val (.ref mr), .unset] [(.ref mr), (.ref mr)] B_ := fun t_ hh => k1 t_ (st24 t_ hh)
 have k3 : own_J p e below T21 m 7 #[.val (.ref ea), .val (.int (3 : Int32)), .val (.ref mr), .unset] [(.int (3 : Int32))] B_ := fun t_ hh => k2 t_ (by
  refine RoadKit.acmp X22 hx (g := (mkF m 3 #[.val (.ref ea), .val (.int (3 : Int32)), .val (.ref mr), .unset] [(.ref mr), (.ref mr)])) rfl (x := (.ref mr)) (y := (.ref mr)) rfl rfl (pc0 := 3) (pc' := 6) (same := true) rfl (hb hby own_h312) rfl (by simp) (by decide) (by decide) ?_
  refine XS.iloadN X22.here hx rfl (hb hby own_h313) rfl ?_
  exact hh)
 obtain ⟨T25, h26, kA27, X28, e29, E30, A31, EA34, O32, st33⟩ := newRE X22 hx hZ hown (wT hw 211 rfl) (wT hw 84 rfl) e23 (g := (mkF m 7 #[.val (.ref ea), .val (.int (3 : Int32)), .val (.ref mr), .unset] [(.int (3 : Int32))])) rfl (hb hby own_h314) rfl (by decide) (cap := 3) (by decide) (by decide) (by decide) (by decide) (ad := "[Ljava/lang/Object;") (by decide)
 obtain ⟨a35, g36⟩ : ∃ z, z = h0.size := ⟨_, rfl⟩
 rw [← g36] at A31 EA34 st33
 have H037 : h0.size ≤ a35 := Nat.le_trans K0.1 (Nat.le_of_eq g36.symm)
 have G38 : n0 ≤ a35 := Nat.le_trans Z0 (Nat.le_of_eq g36.symm)
 have F39 := f0_.ext E30
 have F40 := Exa.ext (h' := h26) E30 f1_
 have F41 := Exa.ext (h' := h26) E30 f2_
 have F42 := Exa.ext (h' := h26) E30 f3_
 have Z43 : n0 ≤ h26.size := Nat.le_trans Z0 E30.1
 have P44 : Keep h0 h26 [] := K0.ext E30
 have V45 : Arv Z h26 a35 kA27 (.object "java/lang/Object") (3 : Int32) [.null, .null, .null] .null := Arv.pad (Arv.new A31 (by decide)) (pad_rep [] .null 3)
 have k4 : own_J p e below T25 m 10 #[.val (.ref ea), .val (.int (3 : Int32)), .val (.ref mr), .unset] [(.ref a35)] B_ := fun t_ hh => k3 t_ (st33 t_ hh)
 obtain ⟨cl46, Ar47, -, S48, Ng49, -, -⟩ := id F39
 have k5 : own_J p e below T25 m 32 #[.val (.ref ea), .val (.int (3 : Int32)), .val (.ref mr), .val (.ref a35)] [(.int (3 : Int32)), (.int (10 : Int32)), (.int (0 : Int32)), (.ref a35), (.int (0 : Int32)), (.ref ea)] B_ := fun t_ hh => k4 t_ (by
  refine XS.goto X28.here hx rfl (pc0 := 10) (pc' := 24) rfl (hb hby own_h315) (by decide) (by decide) ?_
  refine XS.astoreN X28.here hx rfl (hb hby own_h316) rfl rfl (l' := #[.val (.ref ea), .val (.int (3 : Int32)), .val (.ref mr), .val (.ref a35)]) rfl ?_
  refine XS.aloadN X28.here hx rfl (hb hby own_h317) rfl rfl ?_
  refine XS.iconst X28.here hx rfl (hb hby own_h318) ?_
  refine XS.aloadN X28.here hx rfl (hb hby own_h319) rfl rfl ?_
  refine XS.iconst X28.here hx rfl (hb hby own_h320) ?_
  refine XS.aloadN X28.here hx rfl (hb hby own_h321) rfl rfl ?_
  refine X28.arraylength hx (by rw [e29]; exact Ar47.1) (State.isArrayOf_alike hZ.alike Ar47.2.1) (g := (mkF m 30 #[.val (.ref ea), .val (.int (3 : Int32)), .val (.ref mr), .val (.ref a35)] [(.ref ea), (.int (0 : Int32)), (.ref a35), (.int (0 : Int32)), (.ref ea)])) rfl rfl (hb hby own_h322) _ ?_
  rw [len_of S48 Ng49]
  refine XS.iloadN X28.here hx rfl (hb hby own_h323) rfl ?_
  exact hh)
 obtain ⟨_, _, ⟨T50, L51, k_52, n_53⟩, -, X54, ⟨Lc55, hQ56, l_57, y_58, z_59⟩, st60⟩ := Jvm.LawKit.callS X28 hx (y := (⟨"java/lang/Math", "min", "(II)I"⟩ : MethodName)) hown (mvT hZ (wT hw 212 rfl)) (mvT hZ (wT hw 213 rfl)) (mvT hZ (wT hw 81 rfl)) (mvT hZ (wT hw 214 rfl)) (by decide) (backOf (W := 4) (rmMin3 l Z a0 hw []  h26 n0 Z43  ) hZ (wT hw 214 rfl) (wT hw 81 rfl) (by decide) (by decide)) (g := (mkF m 32 #[.val (.ref ea), .val (.int (3 : Int32)), .val (.ref mr), .val (.ref a35)] [(.int (3 : Int32)), (.int (10 : Int32)), (.int (0 : Int32)), (.ref a35), (.int (0 : Int32)), (.ref ea)])) rfl (by rw [hml]; rfl) (argsL := [(.int (10 : Int32)), (.int (3 : Int32))]) (rest := [(.int (0 : Int32)), (.ref a35), (.int (0 : Int32)), (.ref ea)]) (lenOf own_h214 rfl) rfl (by show 2 * 0 + _ ≤ _; exact Nat.le_of_eq rfl) (hb hby own_h324) (fun _ _ => ⟨rfl, e29, own_l rfl, own_l rfl⟩)
 dsimp only [Pt.U, Pt.locs, Pt.cells, Pt.slots] at X54 l_57 y_58 z_59 st60 hQ56
 subst l_57 y_58 z_59
 obtain ⟨rfl, N61, e62⟩ := hQ56
 have N63 := Fr.app N0 N61
 have k6 : own_J p e below T50 m 35 #[.val (.ref ea), .val (.int (3 : Int32)), .val (.ref mr), .val (.ref a35)] [(.int (3 : Int32)), (.int (0 : Int32)), (.ref a35), (.int (0 : Int32)), (.ref ea)] B_ := fun t_ hh => k5 t_ (st60 t_ hh)
 obtain ⟨cl64, Ar65, q66, -⟩ := id V45
 obtain ⟨T67, h68, L69, X70, e71, N72, K73, F74, st75⟩ := cpA X54 hx hZ hown (wT hw 215 rfl) (wT hw 218 rfl) (wT hw 216 rfl) (wT hw 217 rfl) e62 (sp := (0 : Int32)) (dp := (0 : Int32)) (nn := (3 : Int32)) (us := [(.ref x0), (.ref x1), (.ref x2)]) F39 V45 (Or.inr ⟨rfl, rfl, ⟨Sto.ofV Ar65 q66 O32 (Ins.of_exa F40 (wT hw 85 rfl)), ⟨Sto.ofV Ar65 q66 O32 (Ins.of_exa F41 (wT hw 85 rfl)), ⟨Sto.ofV Ar65 q66 O32 (Ins.of_exa F42 (wT hw 85 rfl)), trivial⟩⟩⟩⟩) (by decide) (by decide) (by decide) (by decide) (by decide) rfl (by decide) N63 G38 (g := (mkF m 35 #[.val (.ref ea), .val (.int (3 : Int32)), .val (.ref mr), .val (.ref a35)] [(.int (3 : Int32)), (.int (0 : Int32)), (.ref a35), (.int (0 : Int32)), (.ref ea)])) rfl (by rw [hml]; rfl) rfl (hb hby own_h325) (by decide) (W := 0) (by show 2 * 0 + _ ≤ _; exact Nat.le_of_eq rfl) (by decide)
 have ne77 : ea ≠ a35 := by rw [g36]; exact Nat.ne_of_lt f0_.lt
 have F76 := F39.keep K73 (ninS ne77 nin0)
 have F78 := F40.keep K73
 have F79 := F41.keep K73
 have F80 := F42.keep K73
 have F81 := EA34.keep K73
 have Z82 : n0 ≤ h68.size := Nat.le_trans Z43 K73.1
 have P83 : Keep h0 h68 [] := P44.trans K73 (allS (P := fun x => x ∈ [] ∨ h0.size ≤ x) (Or.inr H037) all0)
 have F84 : Arv Z h68 a35 kA27 (.object "java/lang/Object") (3 : Int32) [(.ref x0), (.ref x1), (.ref x2)] .null := F74
 have k7 : own_J p e below T67 m 38 #[.val (.ref ea), .val (.int (3 : Int32)), .val (.ref mr), .val (.ref a35)] [] B_ := fun t_ hh => k6 t_ (st75 t_ hh)
 have k8 : own_J p e below T67 m 39 #[.val (.ref ea), .val (.int (3 : Int32)), .val (.ref mr), .val (.ref a35)] [(.ref a35)] B_ := fun t_ hh => k7 t_ (by
  refine XS.aloadN X70.here hx rfl (hb hby own_h326) rfl rfl ?_
  exact hh)
 obtain ⟨fs, hr, hrun, hended, hW, hsame⟩ := X70.leave (v := some (.ref a35)) (fun h => by rw [Bd.returns] at h; cases h)
 refine ⟨_, _, (own_from hB_ (k8 _ (retOut X70 hx (t := .array (.object "java/lang/Object")) Bd.returns rfl (Or.inr (Or.inr (Or.inr (Or.inr ⟨rfl, rfl, rfl⟩)))) (hb hby own_h327) hr))), hrun, hended, _, _, rfl, ?_, ⟨_, rfl⟩, hW, hsame.mono (own_l rfl) (own_l rfl)⟩
 show Q_rmC33 Z ea ke x0 x1 x2 h0 n0 _ T67.heap _
 rw [e71]
 exact ⟨a35, kA27, rfl, N72, P83, F84, O32, G38, H037, trivial⟩
def Q_rmC23 (Z : State) (ea : Addr) (ke : ClassId) (x0 : Addr) (x1 : Addr) (x2 : Addr) (h0 : Heap) (n0 : Nat) (v : Option Value) (h : Heap) (L : List Loc) : Prop := ∃ r : Addr, ∃ kr : ClassId, v = some (.ref r) ∧ Fr n0 L ∧ Keep h0 h [] ∧ Arv Z h r kr (.object "java/lang/Object") (3 : Int32) [(.ref x0), (.ref x1), (.ref x2)] .null ∧ Ovr Z kr "java/lang/Object" ∧ n0 ≤ r ∧ h0.size ≤ r ∧ True
set_option maxRecDepth 65536 in
set_option maxHeartbeats 40000000 in
theorem rmC23 (l : Launch) (Z : State) (a0 : Array Value) (hw : ∀ d ∈ tables_1, d.before a0 Z = true) (ws : List Jvm.Cond) (ea : Addr) (ke : ClassId) (x0 : Addr) (x1 : Addr) (x2 : Addr) (h0 : Heap) (n0 : Nat) (Z0 : n0 ≤ h0.size) (f0_ : Exa Z h0 ea "[Ljava/lang/Object;") (f1_ : Arv Z h0 ea ke (.object "java/lang/Object") (10 : Int32) [(.ref x0), (.ref x1), (.ref x2), .null, .null, .null, .null, .null, .null, .null] .null) (f2_ : Exa Z h0 x0 "java/lang/String") (f3_ : Exa Z h0 x1 "java/lang/String") (f4_ : Exa Z h0 x2 "java/lang/String") (mr : Addr) (hM : own_Mir Z "[Ljava/lang/Object;" mr) :
    own_Met l (⟨"java/util/Arrays", "copyOf", "([Ljava/lang/Object;I)[Ljava/lang/Object;"⟩ : MethodName) jdk_65_method_119_code 2 (some (.array (.object "java/lang/Object"))) ws (rO 2 1 3 55) #[(.ref ea), (.int (3 : Int32))] Z h0 (Q_rmC23 Z ea ke x0 x1 x2 h0 n0) := by
 refine MetFree.of_bodySF (plainFor_of_name own_h309) hisR ?_
 intro p e s m args below meth c s₁ Bd hml0 hP hK
 obtain ⟨rfl, hZ, hh⟩ := hP
 have hx := Bd.exec
 have hby := Bd.bytes
 have hml : c.maxLocals = 2 := hml0
 have hown : s.vm.findClass "java/util/Arrays" = some m.cls := findClass_of_methodNamed Bd.named
 have hnm := (name_of_methodNamed Bd.named Bd.method).1
 have X0 : Stand p l e (rO 2 1 3 55) s m #[(.ref ea), (.int (3 : Int32))] below meth c s₁ [] 0 0 := Stand.of_body Bd
 have e0 : s₁.heap = h0 := by rw [← hh, Bd.state]; rfl
 have N0 := Fr.nil n0
 obtain ⟨B_, hB_⟩ : ∃ z, z = s₁.setTop (entryFrame m #[(.ref ea), (.int (3 : Int32))] 2) := ⟨_, rfl⟩
 have k0 : own_K p e below (s₁.setTop (mkF m 0 #[.val (.ref ea), .val (.int (3 : Int32))] [])) B_ := by rw [hB_]; exact fun t k => castTop (by clear k; first | (simp [entryFrame, mkF, argsToLocals, Value.category, maxLocals]; done) | rfl) k
 have K0 : Keep h0 h0 [] := Keep.refl _ _
 have k1 : own_J p e below s₁ m 3 #[.val (.ref ea), .val (.int (3 : Int32))] [(.ref ea), (.int (3 : Int32)), (.ref ea)] B_ := fun t_ hh => k0 t_ (by
  refine XS.aloadN X0.here hx rfl (hb hby own_h328) rfl rfl ?_
  refine XS.iloadN X0.here hx rfl (hb hby own_h329) rfl ?_
  refine XS.aloadN X0.here hx rfl (hb hby own_h330) rfl rfl ?_
  exact hh)
 obtain ⟨T21, X22, e23, st24⟩ := own_gcls X0 hx hZ hown (wT hw 201 rfl) (wT hw 202 rfl) (wT hw 178 rfl) (wT hw 204 rfl) (wT hw 203 rfl) (wT hw 205 rfl) e0 f0_ hM (g := (mkF m 3 #[.val (.ref ea), .val (.int (3 : Int32))] [(.ref ea), (.int (3 : Int32)), (.ref ea)])) rfl (by rw [hml]; rfl) rfl (hb hby own_h331) (by decide) (W := 2) (by show 2 * 0 + _ ≤ _; exact Nat.le_of_eq rfl) (by decide)
 have k2 : own_J p e below T21 m 6 #[.val (.ref ea), .val (.int (3 : Int32))] [(.ref mr), (.int (3 : Int32)), (.ref ea)] B_ := fun t_ hh => k1 t_ (st24 t_ hh)
 obtain ⟨_, _, ⟨T25, L26, k_27, n_28⟩, -, X29, ⟨Lc30, hQ31, l_32, y_33, z_34⟩, st35⟩ := Jvm.LawKit.callS X22 hx (y := (⟨"java/util/Arrays", "copyOf", "([Ljava/lang/Object;ILjava/lang/Class;)[Ljava/lang/Object;"⟩ : MethodName)) hown (mvT hZ (wT hw 207 rfl)) (mvT hZ (wT hw 208 rfl)) (mvT hZ (wT hw 199 rfl)) (mvT hZ (wT hw 209 rfl)) (by decide) (backOf (W := 0) (rmC33 l Z a0 hw [] ea ke x0 x1 x2 h0 n0 Z0 f1_ f2_ f3_ f4_ mr hM) hZ (wT hw 209 rfl) (wT hw 199 rfl) (by decide) (by decide)) (g := (mkF m 6 #[.val (.ref ea), .val (.int (3 : Int32))] [(.ref mr), (.int (3 : Int32)), (.ref ea)])) rfl (by rw [hml]; rfl) (argsL := [(.ref ea), (.int (3 : Int32)), (.ref mr)]) (rest := []) (lenOf own_h333 rfl) rfl (by show 2 * 0 + _ ≤ _; exact Nat.le_of_eq rfl) (hb hby own_h332) (fun _ _ => ⟨rfl, e23, own_l rfl, own_l rfl⟩)
 dsimp only [Pt.U, Pt.locs, Pt.cells, Pt.slots] at X29 l_32 y_33 z_34 st35 hQ31
 subst l_32 y_33 z_34
 obtain ⟨r37, kr38, rfl, N36, K43, F39, F40, F41, F42, -⟩ := hQ31
 have N44 := Fr.app N0 N36
 have H045 : h0.size ≤ r37 := Nat.le_trans K0.1 F42
 have F46 := f0_.keep K43
 have F47 := f1_.keep K43 nin0
 have F48 := f2_.keep K43
 have F49 := f3_.keep K43
 have F50 := f4_.keep K43
 have Z51 : n0 ≤ T25.heap.size := Nat.le_trans Z0 K43.1
 have P52 : Keep h0 T25.heap [] := K0.trans K43 (fun _ q => nomatch q)
 have e53 : T25.heap = T25.heap := rfl
 have k3 : own_J p e below T25 m 9 #[.val (.ref ea), .val (.int (3 : Int32))] [(.ref r37)] B_ := fun t_ hh => k2 t_ (st35 t_ hh)
 obtain ⟨fs, hr, hrun, hended, hW, hsame⟩ := X29.leave (v := some (.ref r37)) (fun h => by rw [Bd.returns] at h; cases h)
 refine ⟨_, _, (own_from hB_ (k3 _ (retOut X29 hx (t := .array (.object "java/lang/Object")) Bd.returns rfl (Or.inr (Or.inr (Or.inr (Or.inr ⟨rfl, rfl, rfl⟩)))) (hb hby own_h334) hr))), hrun, hended, _, _, rfl, ?_, ⟨_, rfl⟩, hW, hsame.mono (own_l rfl) (own_l rfl)⟩
 show Q_rmC23 Z ea ke x0 x1 x2 h0 n0 _ T25.heap _
 rw [e53]
 exact ⟨r37, kr38, rfl, N44, P52, F39, F40, F41, H045, trivial⟩
def Q_rmTa3 (Z : State) (a : Addr) (ea : Addr) (ke : ClassId) (x0 : Addr) (x1 : Addr) (x2 : Addr) (h0 : Heap) (n0 : Nat) (v : Option Value) (h : Heap) (L : List Loc) : Prop := ∃ r : Addr, ∃ kr : ClassId, v = some (.ref r) ∧ Fr n0 L ∧ Keep h0 h [] ∧ Arv Z h r kr (.object "java/lang/Object") (3 : Int32) [(.ref x0), (.ref x1), (.ref x2)] .null ∧ Ovr Z kr "java/lang/Object" ∧ n0 ≤ r ∧ h0.size ≤ r ∧ True
set_option maxRecDepth 65536 in
set_option maxHeartbeats 40000000 in
theorem rmTa3 (l : Launch) (Z : State) (a0 : Array Value) (hw : ∀ d ∈ tables_1, d.before a0 Z = true) (ws : List Jvm.Cond) (a : Addr) (ea : Addr) (ke : ClassId) (x0 : Addr) (x1 : Addr) (x2 : Addr) (h0 : Heap) (n0 : Nat) (Z0 : n0 ≤ h0.size) (f0_ : Fld Z h0 a "java/util/ArrayList" "elementData" "[Ljava/lang/Object;" (.ref ea)) (f1_ : Fld Z h0 a "java/util/ArrayList" "size" "I" (.int (3 : Int32))) (f2_ : Exa Z h0 ea "[Ljava/lang/Object;") (f3_ : Arv Z h0 ea ke (.object "java/lang/Object") (10 : Int32) [(.ref x0), (.ref x1), (.ref x2), .null, .null, .null, .null, .null, .null, .null] .null) (f4_ : Exa Z h0 x0 "java/lang/String") (f5_ : Exa Z h0 x1 "java/lang/String") (f6_ : Exa Z h0 x2 "java/lang/String") (mr : Addr) (hM : own_Mir Z "[Ljava/lang/Object;" mr) :
    own_Met l (⟨"java/util/ArrayList", "toArray", "()[Ljava/lang/Object;"⟩ : MethodName) jdk_38_method_16_code 1 (some (.array (.object "java/lang/Object"))) ws (rO 3 1 3 68) #[(.ref a)] Z h0 (Q_rmTa3 Z a ea ke x0 x1 x2 h0 n0) := by
 refine MetFree.of_bodySF (plainFor_of_name own_h186) hisR ?_
 intro p e s m args below meth c s₁ Bd hml0 hP hK
 obtain ⟨rfl, hZ, hh⟩ := hP
 have hx := Bd.exec
 have hby := Bd.bytes
 have hml : c.maxLocals = 1 := hml0
 have hown : s.vm.findClass "java/util/ArrayList" = some m.cls := findClass_of_methodNamed Bd.named
 have hnm := (name_of_methodNamed Bd.named Bd.method).1
 have X0 : Stand p l e (rO 3 1 3 68) s m #[(.ref a)] below meth c s₁ [] 0 0 := Stand.of_body Bd
 have e0 : s₁.heap = h0 := by rw [← hh, Bd.state]; rfl
 have N0 := Fr.nil n0
 obtain ⟨B_, hB_⟩ : ∃ z, z = s₁.setTop (entryFrame m #[(.ref a)] 1) := ⟨_, rfl⟩
 have k0 : own_K p e below (s₁.setTop (mkF m 0 #[.val (.ref a)] [])) B_ := by rw [hB_]; exact fun t k => castTop (by clear k; first | (simp [entryFrame, mkF, argsToLocals, Value.category, maxLocals]; done) | rfl) k
 have K0 : Keep h0 h0 [] := Keep.refl _ _
 have k1 : own_J p e below s₁ m 1 #[.val (.ref a)] [(.ref a)] B_ := fun t_ hh => k0 t_ (by
  refine XS.aloadN X0.here hx rfl (hb hby own_h335) rfl rfl ?_
  exact hh)
 obtain ⟨T21, X22, e23, st24⟩ := getF X0 hx hZ hown (host := "") (Or.inl (wT hw 49 rfl)) Via.refl e0 f0_ (g := (mkF m 1 #[.val (.ref a)] [(.ref a)])) rfl rfl (hb hby own_h336)
 have k2 : own_J p e below T21 m 4 #[.val (.ref a)] [(.ref ea)] B_ := fun t_ hh => k1 t_ (st24 t_ hh)
 have k3 : own_J p e below T21 m 5 #[.val (.ref a)] [(.ref a), (.ref ea)] B_ := fun t_ hh => k2 t_ (by
  refine XS.aloadN X22.here hx rfl (hb hby own_h337) rfl rfl ?_
  exact hh)
 obtain ⟨T25, X26, e27, st28⟩ := getF X22 hx hZ hown (host := "") (Or.inl (wT hw 62 rfl)) Via.refl e23 f1_ (g := (mkF m 5 #[.val (.ref a)] [(.ref a), (.ref ea)])) rfl rfl (hb hby own_h338)
 have k4 : own_J p e below T25 m 8 #[.val (.ref a)] [(.int (3 : Int32)), (.ref ea)] B_ := fun t_ hh => k3 t_ (st28 t_ hh)
 obtain ⟨_, _, ⟨T29, L30, k_31, n_32⟩, -, X33, ⟨Lc34, hQ35, l_36, y_37, z_38⟩, st39⟩ := Jvm.LawKit.callS X26 hx (y := (⟨"java/util/Arrays", "copyOf", "([Ljava/lang/Object;I)[Ljava/lang/Object;"⟩ : MethodName)) hown (mvT hZ (wT hw 197 rfl)) (mvT hZ (wT hw 198 rfl)) (mvT hZ (wT hw 199 rfl)) (mvT hZ (wT hw 200 rfl)) (by decide) (backOf (W := 0) (rmC23 l Z a0 hw [] ea ke x0 x1 x2 h0 n0 Z0 f2_ f3_ f4_ f5_ f6_ mr hM) hZ (wT hw 200 rfl) (wT hw 199 rfl) (by decide) (by decide)) (g := (mkF m 8 #[.val (.ref a)] [(.int (3 : Int32)), (.ref ea)])) rfl (by rw [hml]; rfl) (argsL := [(.ref ea), (.int (3 : Int32))]) (rest := []) (lenOf own_h340 rfl) rfl (by show 2 * 0 + _ ≤ _; exact Nat.le_of_eq rfl) (hb hby own_h339) (fun _ _ => ⟨rfl, e27, own_l rfl, own_l rfl⟩)
 dsimp only [Pt.U, Pt.locs, Pt.cells, Pt.slots] at X33 l_36 y_37 z_38 st39 hQ35
 subst l_36 y_37 z_38
 obtain ⟨r41, kr42, rfl, N40, K47, F43, F44, F45, F46, -⟩ := hQ35
 have N48 := Fr.app N0 N40
 have H049 : h0.size ≤ r41 := Nat.le_trans K0.1 F46
 have F50 := f0_.keep K47 nin0
 have F51 := f1_.keep K47 nin0
 have F52 := f2_.keep K47
 have F53 := f3_.keep K47 nin0
 have F54 := f4_.keep K47
 have F55 := f5_.keep K47
 have F56 := f6_.keep K47
 have Z57 : n0 ≤ T29.heap.size := Nat.le_trans Z0 K47.1
 have P58 : Keep h0 T29.heap [] := K0.trans K47 (fun _ q => nomatch q)
 have e59 : T29.heap = T29.heap := rfl
 have k5 : own_J p e below T29 m 11 #[.val (.ref a)] [(.ref r41)] B_ := fun t_ hh => k4 t_ (st39 t_ hh)
 obtain ⟨fs, hr, hrun, hended, hW, hsame⟩ := X33.leave (v := some (.ref r41)) (fun h => by rw [Bd.returns] at h; cases h)
 refine ⟨_, _, (own_from hB_ (k5 _ (retOut X33 hx (t := .array (.object "java/lang/Object")) Bd.returns rfl (Or.inr (Or.inr (Or.inr (Or.inr ⟨rfl, rfl, rfl⟩)))) (hb hby own_h341) hr))), hrun, hended, _, _, rfl, ?_, ⟨_, rfl⟩, hW, hsame.mono (own_l rfl) (own_l rfl)⟩
 show Q_rmTa3 Z a ea ke x0 x1 x2 h0 n0 _ T29.heap _
 rw [e59]
 exact ⟨r41, kr42, rfl, N48, P58, F43, F44, F45, H049, trivial⟩
def Q_rmL21 (Z : State) (a : Addr) (x : Addr) (em : Addr) (h0 : Heap) (n0 : Nat) (v : Option Value) (h : Heap) (L : List Loc) : Prop := v = none ∧ Fr n0 L ∧ Keep h0 h [a] ∧ Exa Z h a "java/util/ImmutableCollections$List12" ∧ Fld Z h a "java/util/ImmutableCollections$List12" "e0" "Ljava/lang/Object;" (.ref x) ∧ Fld Z h a "java/util/ImmutableCollections$List12" "e1" "Ljava/lang/Object;" (.ref em) ∧ True
theorem own_h342 : plainName "java/util/ImmutableCollections$List12" = true := by first | (simp [plainName, overriddenIn]; done) | decide +kernel
theorem own_h343 : decode jdk_44_method_1_code 0 = .ok (.aload_n 0, 1) := by decide +kernel
theorem own_h344 : decode jdk_44_method_1_code 1 = .ok (.invokespecial 1, 3) := by decide +kernel
theorem own_h345 : decode jdk_44_method_1_code 4 = .ok (.aload_n 0, 1) := by decide +kernel
theorem own_h346 : decode jdk_44_method_1_code 5 = .ok (.aload_n 1, 1) := by decide +kernel
theorem own_h347 : decode jdk_44_method_1_code 6 = .ok (.invokestatic 7, 3) := by decide +kernel
theorem own_h348 : parseMethodDescriptor "(Ljava/lang/Object;)Ljava/lang/Object;" = some ⟨[.object "java/lang/Object"], some (.object "java/lang/Object")⟩ := by decide +kernel
theorem own_h349 : decode jdk_44_method_1_code 9 = .ok (.putfield 13, 3) := by decide +kernel
theorem own_h350 : decode jdk_44_method_1_code 12 = .ok (.aload_n 0, 1) := by decide +kernel
theorem own_h351 : decode jdk_44_method_1_code 13 = .ok (.getstatic 19, 3) := by decide +kernel
theorem own_h352 : decode jdk_44_method_1_code 16 = .ok (.putfield 24, 3) := by decide +kernel
theorem own_h353 : decode jdk_44_method_1_code 19 = .ok (.return_, 1) := by decide +kernel
set_option maxRecDepth 65536 in
set_option maxHeartbeats 40000000 in
theorem rmL21 (l : Launch) (Z : State) (a0 : Array Value) (hw : ∀ d ∈ tables_1, d.before a0 Z = true) (ws : List Jvm.Cond) (a : Addr) (x : Addr) (em : Addr) (h0 : Heap) (n0 : Nat) (Z0 : n0 ≤ h0.size) (f0_ : Exa Z h0 a "java/util/ImmutableCollections$List12") (f1_ : Fld Z h0 a "java/util/ImmutableCollections$List12" "e0" "Ljava/lang/Object;" .null) (f2_ : Fld Z h0 a "java/util/ImmutableCollections$List12" "e1" "Ljava/lang/Object;" .null) (f3_ : n0 ≤ a) (f4_ : Old Z n0 h0) (sE : Sta Z Z.heap "java/util/ImmutableCollections" "EMPTY" "Ljava/lang/Object;" (.ref em)) :
    own_Met l (⟨"java/util/ImmutableCollections$List12", "<init>", "(Ljava/lang/Object;)V"⟩ : MethodName) jdk_44_method_1_code 2 none ws (rO 4 0 0 48) #[(.ref a), (.ref x)] Z h0 (Q_rmL21 Z a x em h0 n0) := by
 refine MetFree.of_bodySF (plainFor_of_name own_h342) hisR ?_
 intro p e s m args below meth c s₁ Bd hml0 hP hK
 obtain ⟨rfl, hZ, hh⟩ := hP
 have hx := Bd.exec
 have hby := Bd.bytes
 have hml : c.maxLocals = 2 := hml0
 have hown : s.vm.findClass "java/util/ImmutableCollections$List12" = some m.cls := findClass_of_methodNamed Bd.named
 have hnm := (name_of_methodNamed Bd.named Bd.method).1
 have X0 : Stand p l e (rO 4 0 0 48) s m #[(.ref a), (.ref x)] below meth c s₁ [] 0 0 := Stand.of_body Bd
 have e0 : s₁.heap = h0 := by rw [← hh, Bd.state]; rfl
 have N0 := Fr.nil n0
 obtain ⟨B_, hB_⟩ : ∃ z, z = s₁.setTop (entryFrame m #[(.ref a), (.ref x)] 2) := ⟨_, rfl⟩
 have k0 : own_K p e below (s₁.setTop (mkF m 0 #[.val (.ref a), .val (.ref x)] [])) B_ := by rw [hB_]; exact fun t k => castTop (by clear k; first | (simp [entryFrame, mkF, argsToLocals, Value.category, maxLocals]; done) | rfl) k
 have K0 : Keep h0 h0 [a] := Keep.refl _ _
 have k1 : own_J p e below s₁ m 1 #[.val (.ref a), .val (.ref x)] [(.ref a)] B_ := fun t_ hh => k0 t_ (by
  refine XS.aloadN X0.here hx rfl (hb hby own_h343) rfl rfl ?_
  exact hh)
 obtain ⟨_, _, ⟨T21, L22, k_23, n_24⟩, -, X25, ⟨Lc26, hQ27, l_28, y_29, z_30⟩, st31⟩ := X0.specialBack hx (y := (⟨"java/util/ImmutableCollections$AbstractImmutableList", "<init>", "()V"⟩ : MethodName)) rfl hown (mvT hZ (wT hw 229 rfl)) (mvT hZ (wT hw 230 rfl)) (mvT hZ (wT hw 234 rfl)) (by decide) (backOf (W := 0) (rmAIL l Z a0 hw [] a h0 n0 Z0  ) hZ (wT hw 234 rfl) (wT hw 233 rfl) (by decide) (by decide)) (g := (mkF m 1 #[.val (.ref a), .val (.ref x)] [(.ref a)])) rfl (by rw [hml]; rfl) (Steps.refl _) (a := a) (argsL := []) (rest := []) (lenOf own_h153 rfl) rfl (by show 2 * 0 + _ ≤ _; exact Nat.le_of_eq rfl) (hb hby own_h344) (fun _ _ => ⟨rfl, e0, own_l rfl, own_l rfl⟩)
 dsimp only [Pt.U, Pt.locs, Pt.cells, Pt.slots] at X25 l_28 y_29 z_30 st31 hQ27
 subst l_28 y_29 z_30
 obtain ⟨rfl, N32, e33⟩ := hQ27
 have N34 := Fr.app N0 N32
 have k2 : own_J p e below T21 m 4 #[.val (.ref a), .val (.ref x)] [] B_ := fun t_ hh => k1 t_ (st31.trans hh)
 have k3 : own_J p e below T21 m 6 #[.val (.ref a), .val (.ref x)] [(.ref x), (.ref a)] B_ := fun t_ hh => k2 t_ (by
  refine XS.aloadN X25.here hx rfl (hb hby own_h345) rfl rfl ?_
  refine XS.aloadN X25.here hx rfl (hb hby own_h346) rfl rfl ?_
  exact hh)
 obtain ⟨_, _, ⟨T35, L36, k_37, n_38⟩, -, X39, ⟨Lc40, hQ41, l_42, y_43, z_44⟩, st45⟩ := Jvm.LawKit.callS X25 hx (y := (⟨"java/util/Objects", "requireNonNull", "(Ljava/lang/Object;)Ljava/lang/Object;"⟩ : MethodName)) hown (mvT hZ (wT hw 243 rfl)) (mvT hZ (wT hw 244 rfl)) (mvT hZ (wT hw 147 rfl)) (mvT hZ (wT hw 245 rfl)) (by decide) (backOf (W := 1) (rmRn l Z a0 hw [] x h0 n0 Z0  ) hZ (wT hw 245 rfl) (wT hw 147 rfl) (by decide) (by decide)) (g := (mkF m 6 #[.val (.ref a), .val (.ref x)] [(.ref x), (.ref a)])) rfl (by rw [hml]; rfl) (argsL := [(.ref x)]) (rest := [(.ref a)]) (lenOf own_h348 rfl) rfl (by show 2 * 0 + _ ≤ _; exact Nat.le_of_eq rfl) (hb hby own_h347) (fun _ _ => ⟨rfl, e33, own_l rfl, own_l rfl⟩)
 dsimp only [Pt.U, Pt.locs, Pt.cells, Pt.slots] at X39 l_42 y_43 z_44 st45 hQ41
 subst l_42 y_43 z_44
 obtain ⟨rfl, N46, e47⟩ := hQ41
 have N48 := Fr.app N34 N46
 have k4 : own_J p e below T35 m 9 #[.val (.ref a), .val (.ref x)] [(.ref x), (.ref a)] B_ := fun t_ hh => k3 t_ (st45 t_ hh)
 obtain ⟨T49, h50, X51, e52, W53, st54⟩ := putF X39 hx hZ hown (host := "") (Or.inl (wT hw 246 rfl)) Via.refl e47 f1_ f0_ (Or.inr ⟨(wT hw 247 rfl), rfl, hnm⟩) (wT hw 223 rfl) (ty := .object "java/lang/Object") (by decide) rfl rfl (g := (mkF m 9 #[.val (.ref a), .val (.ref x)] [(.ref x), (.ref a)])) rfl rfl (hb hby own_h349)
 have N55 := Fr.snoc X51 N48 f3_
 have F56 := Exa.wr W53 f0_
 have F57 : Fld Z h50 a "java/util/ImmutableCollections$List12" "e0" "Ljava/lang/Object;" (.ref x) := Fld.same W53 f1_
 have F58 := Fld.other W53 f2_ (Or.inr (slot_ne (Or.inr (wT hw 249 rfl)) (Or.inr (wT hw 247 rfl)) (by decide) (t := (.object "java/lang/Object")) (t' := (.object "java/lang/Object")) (by decide) (by decide)))
 have Z60 : n0 ≤ h50.size := W53.size ▸ Z0
 have O61 := f4_.wr W53 f3_
 have P62 : Keep h0 h50 [a] := K0.wr W53 (Or.inl (List.mem_of_getElem? (i := 0) rfl))
 have k5 : own_J p e below T49 m 12 #[.val (.ref a), .val (.ref x)] [] B_ := fun t_ hh => k4 t_ (st54 t_ hh)
 have k6 : own_J p e below T49 m 13 #[.val (.ref a), .val (.ref x)] [(.ref a)] B_ := fun t_ hh => k5 t_ (by
  refine XS.aloadN X51.here hx rfl (hb hby own_h350) rfl rfl ?_
  exact hh)
 obtain ⟨T63, X64, e65, st66⟩ := getS2 X51 hx hZ hown (host := "java/util/ImmutableCollections") (Or.inr (wT hw 309 rfl)) Via.refl e52 (Sta.ext O61.2 sE) (g := (mkF m 13 #[.val (.ref a), .val (.ref x)] [(.ref a)])) rfl (hb hby own_h351)
 have k7 : own_J p e below T63 m 16 #[.val (.ref a), .val (.ref x)] [(.ref em), (.ref a)] B_ := fun t_ hh => k6 t_ (st66 t_ hh)
 obtain ⟨T67, h68, X69, e70, W71, st72⟩ := putF X64 hx hZ hown (host := "") (Or.inl (wT hw 248 rfl)) Via.refl e65 F58 F56 (Or.inr ⟨(wT hw 249 rfl), rfl, hnm⟩) (wT hw 223 rfl) (ty := .object "java/lang/Object") (by decide) rfl rfl (g := (mkF m 16 #[.val (.ref a), .val (.ref x)] [(.ref em), (.ref a)])) rfl rfl (hb hby own_h352)
 have N73 := Fr.snoc X69 N55 f3_
 have F74 := Exa.wr W71 F56
 have F75 := Fld.other W71 F57 (Or.inr (slot_ne (Or.inr (wT hw 247 rfl)) (Or.inr (wT hw 249 rfl)) (by decide) (t := (.object "java/lang/Object")) (t' := (.object "java/lang/Object")) (by decide) (by decide)))
 have F76 : Fld Z h68 a "java/util/ImmutableCollections$List12" "e1" "Ljava/lang/Object;" (.ref em) := Fld.same W71 F58
 have Z78 : n0 ≤ h68.size := W71.size ▸ Z60
 have O79 := O61.wr W71 f3_
 have P80 : Keep h0 h68 [a] := P62.wr W71 (Or.inl (List.mem_of_getElem? (i := 0) rfl))
 have k8 : own_J p e below T67 m 19 #[.val (.ref a), .val (.ref x)] [] B_ := fun t_ hh => k7 t_ (st72 t_ hh)
 obtain ⟨fs, hr, hrun, hended, hW, hsame⟩ := X69.leave (v := none) (fun _ => rfl)
 refine ⟨_, _, (own_from hB_ (k8 _ (X69.returnOut hx Bd.returns (hb hby own_h353) hr))), hrun, hended, _, _, rfl, ?_, ⟨_, rfl⟩, hW, hsame.mono (own_l rfl) (own_l rfl)⟩
 show Q_rmL21 Z a x em h0 n0 _ T67.heap _
 rw [e70]
 exact ⟨rfl, N73, P80, F74, F75, F76, trivial⟩
def Q_rmL22 (Z : State) (a : Addr) (x : Addr) (y : Addr) (h0 : Heap) (n0 : Nat) (v : Option Value) (h : Heap) (L : List Loc) : Prop := v = none ∧ Fr n0 L ∧ Keep h0 h [a] ∧ Exa Z h a "java/util/ImmutableCollections$List12" ∧ Fld Z h a "java/util/ImmutableCollections$List12" "e0" "Ljava/lang/Object;" (.ref x) ∧ Fld Z h a "java/util/ImmutableCollections$List12" "e1" "Ljava/lang/Object;" (.ref y) ∧ True
theorem own_h354 : decode jdk_44_method_2_code 0 = .ok (.aload_n 0, 1) := by decide +kernel
theorem own_h355 : decode jdk_44_method_2_code 1 = .ok (.invokespecial 1, 3) := by decide +kernel
theorem own_h356 : decode jdk_44_method_2_code 4 = .ok (.aload_n 0, 1) := by decide +kernel
theorem own_h357 : decode jdk_44_method_2_code 5 = .ok (.aload_n 1, 1) := by decide +kernel
theorem own_h358 : decode jdk_44_method_2_code 6 = .ok (.invokestatic 7, 3) := by decide +kernel
theorem own_h359 : decode jdk_44_method_2_code 9 = .ok (.putfield 13, 3) := by decide +kernel
theorem own_h360 : decode jdk_44_method_2_code 12 = .ok (.aload_n 0, 1) := by decide +kernel
theorem own_h361 : decode jdk_44_method_2_code 13 = .ok (.aload_n 2, 1) := by decide +kernel
theorem own_h362 : decode jdk_44_method_2_code 14 = .ok (.invokestatic 7, 3) := by decide +kernel
theorem own_h363 : decode jdk_44_method_2_code 17 = .ok (.putfield 24, 3) := by decide +kernel
theorem own_h364 : decode jdk_44_method_2_code 20 = .ok (.return_, 1) := by decide +kernel
set_option maxRecDepth 65536 in
set_option maxHeartbeats 40000000 in
theorem rmL22 (l : Launch) (Z : State) (a0 : Array Value) (hw : ∀ d ∈ tables_1, d.before a0 Z = true) (ws : List Jvm.Cond) (a : Addr) (x : Addr) (y : Addr) (h0 : Heap) (n0 : Nat) (Z0 : n0 ≤ h0.size) (f0_ : Exa Z h0 a "java/util/ImmutableCollections$List12") (f1_ : Fld Z h0 a "java/util/ImmutableCollections$List12" "e0" "Ljava/lang/Object;" .null) (f2_ : Fld Z h0 a "java/util/ImmutableCollections$List12" "e1" "Ljava/lang/Object;" .null) (f3_ : n0 ≤ a)  :
    own_Met l (⟨"java/util/ImmutableCollections$List12", "<init>", "(Ljava/lang/Object;Ljava/lang/Object;)V"⟩ : MethodName) jdk_44_method_2_code 3 none ws (rO 4 0 0 48) #[(.ref a), (.ref x), (.ref y)] Z h0 (Q_rmL22 Z a x y h0 n0) := by
 refine MetFree.of_bodySF (plainFor_of_name own_h342) hisR ?_
 intro p e s m args below meth c s₁ Bd hml0 hP hK
 obtain ⟨rfl, hZ, hh⟩ := hP
 have hx := Bd.exec
 have hby := Bd.bytes
 have hml : c.maxLocals = 3 := hml0
 have hown : s.vm.findClass "java/util/ImmutableCollections$List12" = some m.cls := findClass_of_methodNamed Bd.named
 have hnm := (name_of_methodNamed Bd.named Bd.method).1
 have X0 : Stand p l e (rO 4 0 0 48) s m #[(.ref a), (.ref x), (.ref y)] below meth c s₁ [] 0 0 := Stand.of_body Bd
 have e0 : s₁.heap = h0 := by rw [← hh, Bd.state]; rfl
 have N0 := Fr.nil n0
 obtain ⟨B_, hB_⟩ : ∃ z, z = s₁.setTop (entryFrame m #[(.ref a), (.ref x), (.ref y)] 3) := ⟨_, rfl⟩
 have k0 : own_K p e below (s₁.setTop (mkF m 0 #[.val (.ref a), .val (.ref x), .val (.ref y)] [])) B_ := by rw [hB_]; exact fun t k => castTop (by clear k; first | (simp [entryFrame, mkF, argsToLocals, Value.category, maxLocals]; done) | rfl) k
 have K0 : Keep h0 h0 [a] := Keep.refl _ _
 have k1 : own_J p e below s₁ m 1 #[.val (.ref a), .val (.ref x), .val (.ref y)] [(.ref a)] B_ := fun t_ hh => k0 t_ (by
  refine XS.aloadN X0.here hx rfl (hb hby own_h354) rfl rfl ?_
  exact hh)
 obtain ⟨_, _, ⟨T21, L22, k_23, n_24⟩, -, X25, ⟨Lc26, hQ27, l_28, y_29, z_30⟩, st31⟩ := X0.specialBack hx (y := (⟨"java/util/ImmutableCollections$AbstractImmutableList", "<init>", "()V"⟩ : MethodName)) rfl hown (mvT hZ (wT hw 229 rfl)) (mvT hZ (wT hw 230 rfl)) (mvT hZ (wT hw 234 rfl)) (by decide) (backOf (W := 0) (rmAIL l Z a0 hw [] a h0 n0 Z0  ) hZ (wT hw 234 rfl) (wT hw 233 rfl) (by decide) (by decide)) (g := (mkF m 1 #[.val (.ref a), .val (.ref x), .val (.ref y)] [(.ref a)])) rfl (by rw [hml]; rfl) (Steps.refl _) (a := a) (argsL := []) (rest := []) (lenOf own_h153 rfl) rfl (by show 2 * 0 + _ ≤ _; exact Nat.le_of_eq rfl) (hb hby own_h355) (fun _ _ => ⟨rfl, e0, own_l rfl, own_l rfl⟩)
 dsimp only [Pt.U, Pt.locs, Pt.cells, Pt.slots] at X25 l_28 y_29 z_30 st31 hQ27
 subst l_28 y_29 z_30
 obtain ⟨rfl, N32, e33⟩ := hQ27
 have N34 := Fr.app N0 N32
 have k2 : own_J p e below T21 m 4 #[.val (.ref a), .val (.ref x), .val (.ref y)] [] B_ := fun t_ hh => k1 t_ (st31.trans hh)
 have k3 : own_J p e below T21 m 6 #[.val (.ref a), .val (.ref x), .val (.ref y)] [(.ref x), (.ref a)] B_ := fun t_ hh => k2 t_ (by
  refine XS.aloadN X25.here hx rfl (hb hby own_h356) rfl rfl ?_
  refine XS.aloadN X25.here hx rfl (hb hby own_h357) rfl rfl ?_
  exact hh)
 obtain ⟨_, _, ⟨T35, L36, k_37, n_38⟩, -, X39, ⟨Lc40, hQ41, l_42, y_43, z_44⟩, st45⟩ := Jvm.LawKit.callS X25 hx (y := (⟨"java/util/Objects", "requireNonNull", "(Ljava/lang/Object;)Ljava/lang/Object;"⟩ : MethodName)) hown (mvT hZ (wT hw 243 rfl)) (mvT hZ (wT hw 244 rfl)) (mvT hZ (wT hw 147 rfl)) (mvT hZ (wT hw 245 rfl)) (by decide) (backOf (W := 1) (rmRn l Z a0 hw [] x h0 n0 Z0  ) hZ (wT hw 245 rfl) (wT hw 147 rfl) (by decide) (by decide)) (g := (mkF m 6 #[.val (.ref a), .val (.ref x), .val (.ref y)] [(.ref x), (.ref a)])) rfl (by rw [hml]; rfl) (argsL := [(.ref x)]) (rest := [(.ref a)]) (lenOf own_h348 rfl) rfl (by show 2 * 0 + _ ≤ _; exact Nat.le_of_eq rfl) (hb hby own_h358) (fun _ _ => ⟨rfl, e33, own_l rfl, own_l rfl⟩)
 dsimp only [Pt.U, Pt.locs, Pt.cells, Pt.slots] at X39 l_42 y_43 z_44 st45 hQ41
 subst l_42 y_43 z_44
 obtain ⟨rfl, N46, e47⟩ := hQ41
 have N48 := Fr.app N34 N46
 have k4 : own_J p e below T35 m 9 #[.val (.ref a), .val (.ref x), .val (.ref y)] [(.ref x), (.ref a)] B_ := fun t_ hh => k3 t_ (st45 t_ hh)
 obtain ⟨T49, h50, X51, e52, W53, st54⟩ := putF X39 hx hZ hown (host := "") (Or.inl (wT hw 246 rfl)) Via.refl e47 f1_ f0_ (Or.inr ⟨(wT hw 247 rfl), rfl, hnm⟩) (wT hw 223 rfl) (ty := .object "java/lang/Object") (by decide) rfl rfl (g := (mkF m 9 #[.val (.ref a), .val (.ref x), .val (.ref y)] [(.ref x), (.ref a)])) rfl rfl (hb hby own_h359)
 have N55 := Fr.snoc X51 N48 f3_
 have F56 := Exa.wr W53 f0_
 have F57 : Fld Z h50 a "java/util/ImmutableCollections$List12" "e0" "Ljava/lang/Object;" (.ref x) := Fld.same W53 f1_
 have F58 := Fld.other W53 f2_ (Or.inr (slot_ne (Or.inr (wT hw 249 rfl)) (Or.inr (wT hw 247 rfl)) (by decide) (t := (.object "java/lang/Object")) (t' := (.object "java/lang/Object")) (by decide) (by decide)))
 have Z59 : n0 ≤ h50.size := W53.size ▸ Z0
 have P60 : Keep h0 h50 [a] := K0.wr W53 (Or.inl (List.mem_of_getElem? (i := 0) rfl))
 have k5 : own_J p e below T49 m 12 #[.val (.ref a), .val (.ref x), .val (.ref y)] [] B_ := fun t_ hh => k4 t_ (st54 t_ hh)
 have k6 : own_J p e below T49 m 14 #[.val (.ref a), .val (.ref x), .val (.ref y)] [(.ref y), (.ref a)] B_ := fun t_ hh => k5 t_ (by
  refine XS.aloadN X51.here hx rfl (hb hby own_h360) rfl rfl ?_
  refine XS.aloadN X51.here hx rfl (hb hby own_h361) rfl rfl ?_
  exact hh)
 obtain ⟨_, _, ⟨T61, L62, k_63, n_64⟩, -, X65, ⟨Lc66, hQ67, l_68, y_69, z_70⟩, st71⟩ := Jvm.LawKit.callS X51 hx (y := (⟨"java/util/Objects", "requireNonNull", "(Ljava/lang/Object;)Ljava/lang/Object;"⟩ : MethodName)) hown (mvT hZ (wT hw 243 rfl)) (mvT hZ (wT hw 244 rfl)) (mvT hZ (wT hw 147 rfl)) (mvT hZ (wT hw 245 rfl)) (by decide) (backOf (W := 1) (rmRn l Z a0 hw [] y h50 n0 Z59  ) hZ (wT hw 245 rfl) (wT hw 147 rfl) (by decide) (by decide)) (g := (mkF m 14 #[.val (.ref a), .val (.ref x), .val (.ref y)] [(.ref y), (.ref a)])) rfl (by rw [hml]; rfl) (argsL := [(.ref y)]) (rest := [(.ref a)]) (lenOf own_h348 rfl) rfl (by show 2 * 0 + _ ≤ _; exact Nat.le_of_eq rfl) (hb hby own_h362) (fun _ _ => ⟨rfl, e52, own_l rfl, own_l rfl⟩)
 dsimp only [Pt.U, Pt.locs, Pt.cells, Pt.slots] at X65 l_68 y_69 z_70 st71 hQ67
 subst l_68 y_69 z_70
 obtain ⟨rfl, N72, e73⟩ := hQ67
 have N74 := Fr.app N55 N72
 have k7 : own_J p e below T61 m 17 #[.val (.ref a), .val (.ref x), .val (.ref y)] [(.ref y), (.ref a)] B_ := fun t_ hh => k6 t_ (st71 t_ hh)
 obtain ⟨T75, h76, X77, e78, W79, st80⟩ := putF X65 hx hZ hown (host := "") (Or.inl (wT hw 248 rfl)) Via.refl e73 F58 F56 (Or.inr ⟨(wT hw 249 rfl), rfl, hnm⟩) (wT hw 223 rfl) (ty := .object "java/lang/Object") (by decide) rfl rfl (g := (mkF m 17 #[.val (.ref a), .val (.ref x), .val (.ref y)] [(.ref y), (.ref a)])) rfl rfl (hb hby own_h363)
 have N81 := Fr.snoc X77 N74 f3_
 have F82 := Exa.wr W79 F56
 have F83 := Fld.other W79 F57 (Or.inr (slot_ne (Or.inr (wT hw 247 rfl)) (Or.inr (wT hw 249 rfl)) (by decide) (t := (.object "java/lang/Object")) (t' := (.object "java/lang/Object")) (by decide) (by decide)))
 have F84 : Fld Z h76 a "java/util/ImmutableCollections$List12" "e1" "Ljava/lang/Object;" (.ref y) := Fld.same W79 F58
 have Z85 : n0 ≤ h76.size := W79.size ▸ Z59
 have P86 : Keep h0 h76 [a] := P60.wr W79 (Or.inl (List.mem_of_getElem? (i := 0) rfl))
 have k8 : own_J p e below T75 m 20 #[.val (.ref a), .val (.ref x), .val (.ref y)] [] B_ := fun t_ hh => k7 t_ (st80 t_ hh)
 obtain ⟨fs, hr, hrun, hended, hW, hsame⟩ := X77.leave (v := none) (fun _ => rfl)
 refine ⟨_, _, (own_from hB_ (k8 _ (X77.returnOut hx Bd.returns (hb hby own_h364) hr))), hrun, hended, _, _, rfl, ?_, ⟨_, rfl⟩, hW, hsame.mono (own_l rfl) (own_l rfl)⟩
 show Q_rmL22 Z a x y h0 n0 _ T75.heap _
 rw [e78]
 exact ⟨rfl, N81, P86, F82, F83, F84, trivial⟩
def Q_rmLN (Z : State) (a : Addr) (ea : Addr) (h0 : Heap) (n0 : Nat) (v : Option Value) (h : Heap) (L : List Loc) : Prop := v = none ∧ Fr n0 L ∧ Keep h0 h [a] ∧ Exa Z h a "java/util/ImmutableCollections$ListN" ∧ Fld Z h a "java/util/ImmutableCollections$ListN" "elements" "[Ljava/lang/Object;" (.ref ea) ∧ True
theorem own_h365 : plainName "java/util/ImmutableCollections$ListN" = true := by first | (simp [plainName, overriddenIn]; done) | decide +kernel
theorem own_h366 : decode jdk_45_method_1_code 0 = .ok (.aload_n 0, 1) := by decide +kernel
theorem own_h367 : decode jdk_45_method_1_code 1 = .ok (.invokespecial 1, 3) := by decide +kernel
theorem own_h368 : decode jdk_45_method_1_code 4 = .ok (.aload_n 0, 1) := by decide +kernel
theorem own_h369 : decode jdk_45_method_1_code 5 = .ok (.aload_n 1, 1) := by decide +kernel
theorem own_h370 : decode jdk_45_method_1_code 6 = .ok (.putfield 7, 3) := by decide +kernel
theorem own_h371 : decode jdk_45_method_1_code 9 = .ok (.aload_n 0, 1) := by decide +kernel
theorem own_h372 : decode jdk_45_method_1_code 10 = .ok (.iload_n 2, 1) := by decide +kernel
theorem own_h373 : decode jdk_45_method_1_code 11 = .ok (.putfield 13, 3) := by decide +kernel
theorem own_h374 : decode jdk_45_method_1_code 14 = .ok (.return_, 1) := by decide +kernel
set_option maxRecDepth 65536 in
set_option maxHeartbeats 40000000 in
theorem rmLN (l : Launch) (Z : State) (a0 : Array Value) (hw : ∀ d ∈ tables_1, d.before a0 Z = true) (ws : List Jvm.Cond) (a : Addr) (ea : Addr) (h0 : Heap) (n0 : Nat) (Z0 : n0 ≤ h0.size) (f0_ : Exa Z h0 a "java/util/ImmutableCollections$ListN") (f1_ : Fld Z h0 a "java/util/ImmutableCollections$ListN" "elements" "[Ljava/lang/Object;" .null) (f2_ : Fld Z h0 a "java/util/ImmutableCollections$ListN" "allowNulls" "Z" (.int (0 : Int32))) (f3_ : n0 ≤ a)  :
    own_Met l (⟨"java/util/ImmutableCollections$ListN", "<init>", "([Ljava/lang/Object;Z)V"⟩ : MethodName) jdk_45_method_1_code 3 none ws (rO 4 0 0 48) #[(.ref a), (.ref ea), (.int (0 : Int32))] Z h0 (Q_rmLN Z a ea h0 n0) := by
 refine MetFree.of_bodySF (plainFor_of_name own_h365) hisR ?_
 intro p e s m args below meth c s₁ Bd hml0 hP hK
 obtain ⟨rfl, hZ, hh⟩ := hP
 have hx := Bd.exec
 have hby := Bd.bytes
 have hml : c.maxLocals = 3 := hml0
 have hown : s.vm.findClass "java/util/ImmutableCollections$ListN" = some m.cls := findClass_of_methodNamed Bd.named
 have hnm := (name_of_methodNamed Bd.named Bd.method).1
 have X0 : Stand p l e (rO 4 0 0 48) s m #[(.ref a), (.ref ea), (.int (0 : Int32))] below meth c s₁ [] 0 0 := Stand.of_body Bd
 have e0 : s₁.heap = h0 := by rw [← hh, Bd.state]; rfl
 have N0 := Fr.nil n0
 obtain ⟨B_, hB_⟩ : ∃ z, z = s₁.setTop (entryFrame m #[(.ref a), (.ref ea), (.int (0 : Int32))] 3) := ⟨_, rfl⟩
 have k0 : own_K p e below (s₁.setTop (mkF m 0 #[.val (.ref a), .val (.ref ea), .val (.int (0 : Int32))] [])) B_ := by rw [hB_]; exact fun t k => castTop (by clear k; first | (simp [entryFrame, mkF, argsToLocals, Value.category, maxLocals]; done) | rfl) k
 have K0 : Keep h0 h0 [a] := Keep.refl _ _
 have k1 : own_J p e below s₁ m 1 #[.val (.ref a), .val (.ref ea), .val (.int (0 : Int32))] [(.ref a)] B_ := fun t_ hh => k0 t_ (by
  refine XS.aloadN X0.here hx rfl (hb hby own_h366) rfl rfl ?_
  exact hh)
 obtain ⟨_, _, ⟨T21, L22, k_23, n_24⟩, -, X25, ⟨Lc26, hQ27, l_28, y_29, z_30⟩, st31⟩ := X0.specialBack hx (y := (⟨"java/util/ImmutableCollections$AbstractImmutableList", "<init>", "()V"⟩ : MethodName)) rfl hown (mvT hZ (wT hw 282 rfl)) (mvT hZ (wT hw 230 rfl)) (mvT hZ (wT hw 234 rfl)) (by decide) (backOf (W := 0) (rmAIL l Z a0 hw [] a h0 n0 Z0  ) hZ (wT hw 234 rfl) (wT hw 233 rfl) (by decide) (by decide)) (g := (mkF m 1 #[.val (.ref a), .val (.ref ea), .val (.int (0 : Int32))] [(.ref a)])) rfl (by rw [hml]; rfl) (Steps.refl _) (a := a) (argsL := []) (rest := []) (lenOf own_h153 rfl) rfl (by show 2 * 0 + _ ≤ _; exact Nat.le_of_eq rfl) (hb hby own_h367) (fun _ _ => ⟨rfl, e0, own_l rfl, own_l rfl⟩)
 dsimp only [Pt.U, Pt.locs, Pt.cells, Pt.slots] at X25 l_28 y_29 z_30 st31 hQ27
 subst l_28 y_29 z_30
 obtain ⟨rfl, N32, e33⟩ := hQ27
 have N34 := Fr.app N0 N32
 have k2 : own_J p e below T21 m 4 #[.val (.ref a), .val (.ref ea), .val (.int (0 : Int32))] [] B_ := fun t_ hh => k1 t_ (st31.trans hh)
 have k3 : own_J p e below T21 m 6 #[.val (.ref a), .val (.ref ea), .val (.int (0 : Int32))] [(.ref ea), (.ref a)] B_ := fun t_ hh => k2 t_ (by
  refine XS.aloadN X25.here hx rfl (hb hby own_h368) rfl rfl ?_
  refine XS.aloadN X25.here hx rfl (hb hby own_h369) rfl rfl ?_
  exact hh)
 obtain ⟨T35, h36, X37, e38, W39, st40⟩ := putF X25 hx hZ hown (host := "") (Or.inl (wT hw 286 rfl)) Via.refl e33 f1_ f0_ (Or.inr ⟨(wT hw 287 rfl), rfl, hnm⟩) (wT hw 276 rfl) (ty := .array (.object "java/lang/Object")) (by decide) rfl rfl (g := (mkF m 6 #[.val (.ref a), .val (.ref ea), .val (.int (0 : Int32))] [(.ref ea), (.ref a)])) rfl rfl (hb hby own_h370)
 have N41 := Fr.snoc X37 N34 f3_
 have F42 := Exa.wr W39 f0_
 have F43 : Fld Z h36 a "java/util/ImmutableCollections$ListN" "elements" "[Ljava/lang/Object;" (.ref ea) := Fld.same W39 f1_
 have F44 := Fld.other W39 f2_ (Or.inr (slot_ne (Or.inr (wT hw 289 rfl)) (Or.inr (wT hw 287 rfl)) (by decide) (t := .boolean) (t' := (.array (.object "java/lang/Object"))) (by decide) (by decide)))
 have Z45 : n0 ≤ h36.size := W39.size ▸ Z0
 have P46 : Keep h0 h36 [a] := K0.wr W39 (Or.inl (List.mem_of_getElem? (i := 0) rfl))
 have k4 : own_J p e below T35 m 9 #[.val (.ref a), .val (.ref ea), .val (.int (0 : Int32))] [] B_ := fun t_ hh => k3 t_ (st40 t_ hh)
 have k5 : own_J p e below T35 m 11 #[.val (.ref a), .val (.ref ea), .val (.int (0 : Int32))] [(.int (0 : Int32)), (.ref a)] B_ := fun t_ hh => k4 t_ (by
  refine XS.aloadN X37.here hx rfl (hb hby own_h371) rfl rfl ?_
  refine XS.iloadN X37.here hx rfl (hb hby own_h372) rfl ?_
  exact hh)
 obtain ⟨T47, h48, X49, e50, W51, st52⟩ := putF X37 hx hZ hown (host := "") (Or.inl (wT hw 288 rfl)) Via.refl e38 F44 F42 (Or.inr ⟨(wT hw 289 rfl), rfl, hnm⟩) (wT hw 276 rfl) (ty := .boolean) (by decide) rfl rfl (g := (mkF m 11 #[.val (.ref a), .val (.ref ea), .val (.int (0 : Int32))] [(.int (0 : Int32)), (.ref a)])) rfl rfl (hb hby own_h373)
 have N53 := Fr.snoc X49 N41 f3_
 have F54 := Exa.wr W51 F42
 have F55 := Fld.other W51 F43 (Or.inr (slot_ne (Or.inr (wT hw 287 rfl)) (Or.inr (wT hw 289 rfl)) (by decide) (t := (.array (.object "java/lang/Object"))) (t' := .boolean) (by decide) (by decide)))
 have F56 : Fld Z h48 a "java/util/ImmutableCollections$ListN" "allowNulls" "Z" (.int (0 : Int32)) := Fld.same W51 F44
 have Z57 : n0 ≤ h48.size := W51.size ▸ Z45
 have P58 : Keep h0 h48 [a] := P46.wr W51 (Or.inl (List.mem_of_getElem? (i := 0) rfl))
 have k6 : own_J p e below T47 m 14 #[.val (.ref a), .val (.ref ea), .val (.int (0 : Int32))] [] B_ := fun t_ hh => k5 t_ (st52 t_ hh)
 obtain ⟨fs, hr, hrun, hended, hW, hsame⟩ := X49.leave (v := none) (fun _ => rfl)
 refine ⟨_, _, (own_from hB_ (k6 _ (X49.returnOut hx Bd.returns (hb hby own_h374) hr))), hrun, hended, _, _, rfl, ?_, ⟨_, rfl⟩, hW, hsame.mono (own_l rfl) (own_l rfl)⟩
 show Q_rmLN Z a ea h0 n0 _ T47.heap _
 rw [e50]
 exact ⟨rfl, N53, P58, F54, F55, trivial⟩
def Q_rmLf (Z : State) (ea : Addr) (ke : ClassId) (x0 : Addr) (x1 : Addr) (x2 : Addr) (h0 : Heap) (n0 : Nat) (v : Option Value) (h : Heap) (L : List Loc) : Prop := ∃ r : Addr, ∃ q : Addr, ∃ kq : ClassId, v = some (.ref r) ∧ Fr n0 L ∧ Keep h0 h [] ∧ Exa Z h r "java/util/ImmutableCollections$ListN" ∧ Fld Z h r "java/util/ImmutableCollections$ListN" "elements" "[Ljava/lang/Object;" (.ref q) ∧ Arv Z h q kq (.object "java/lang/Object") (3 : Int32) [(.ref x0), (.ref x1), (.ref x2)] .null ∧ n0 ≤ r ∧ h0.size ≤ r ∧ h0.size ≤ q ∧ n0 ≤ q ∧ q ≠ r ∧ True
theorem own_h375 : plainName "java/util/ImmutableCollections" = true := by first | (simp [plainName, overriddenIn]; done) | decide +kernel
theorem own_h376 : decode jdk_56_method_4_code 0 = .ok (.aload_n 0, 1) := by decide +kernel
theorem own_h377 : decode jdk_56_method_4_code 1 = .ok (.arraylength, 1) := by decide +kernel
theorem own_h378 : decode jdk_56_method_4_code 2 = .ok (.anewarray 2, 3) := by decide +kernel
theorem own_h379 : decode jdk_56_method_4_code 5 = .ok (.astore_n 1, 1) := by decide +kernel
theorem own_h380 : decode jdk_56_method_4_code 6 = .ok (.iconst 0, 1) := by decide +kernel
theorem own_h381 : decode jdk_56_method_4_code 7 = .ok (.istore_n 2, 1) := by decide +kernel
theorem own_h382 : decode jdk_56_method_4_code 8 = .ok (.iload_n 2, 1) := by decide +kernel
theorem own_h383 : decode jdk_56_method_4_code 9 = .ok (.aload_n 0, 1) := by decide +kernel
theorem own_h384 : decode jdk_56_method_4_code 10 = .ok (.arraylength, 1) := by decide +kernel
theorem own_h385 : decode jdk_56_method_4_code 11 = .ok (.if_icmp .ge 18, 3) := by decide +kernel
theorem own_h386 : decode jdk_56_method_4_code 14 = .ok (.aload_n 1, 1) := by decide +kernel
theorem own_h387 : decode jdk_56_method_4_code 15 = .ok (.iload_n 2, 1) := by decide +kernel
theorem own_h388 : decode jdk_56_method_4_code 16 = .ok (.aload_n 0, 1) := by decide +kernel
theorem own_h389 : decode jdk_56_method_4_code 17 = .ok (.iload_n 2, 1) := by decide +kernel
theorem own_h390 : decode jdk_56_method_4_code 18 = .ok (.aaload, 1) := by decide +kernel
theorem own_h391 : decode jdk_56_method_4_code 19 = .ok (.invokestatic 37, 3) := by decide +kernel
theorem own_h392 : decode jdk_56_method_4_code 22 = .ok (.aastore, 1) := by decide +kernel
theorem own_h393 : decode jdk_56_method_4_code 23 = .ok (.iinc 2 1, 3) := by decide +kernel
theorem own_h394 : decode jdk_56_method_4_code 26 = .ok (.goto (-18), 3) := by decide +kernel
theorem own_h395 : decode jdk_56_method_4_code 29 = .ok (.new 12, 3) := by decide +kernel
theorem own_h396 : decode jdk_56_method_4_code 32 = .ok (.dup, 1) := by decide +kernel
theorem own_h397 : decode jdk_56_method_4_code 33 = .ok (.aload_n 1, 1) := by decide +kernel
theorem own_h398 : decode jdk_56_method_4_code 34 = .ok (.iconst 0, 1) := by decide +kernel
theorem own_h399 : decode jdk_56_method_4_code 35 = .ok (.invokespecial 43, 3) := by decide +kernel
theorem own_h400 : parseMethodDescriptor "([Ljava/lang/Object;Z)V" = some ⟨[.array (.object "java/lang/Object"), .boolean], none⟩ := by decide +kernel
theorem own_h401 : decode jdk_56_method_4_code 38 = .ok (.areturn, 1) := by decide +kernel
set_option maxRecDepth 65536 in
set_option maxHeartbeats 40000000 in
theorem rmLf (l : Launch) (Z : State) (a0 : Array Value) (hw : ∀ d ∈ tables_1, d.before a0 Z = true) (ws : List Jvm.Cond) (ea : Addr) (ke : ClassId) (x0 : Addr) (x1 : Addr) (x2 : Addr) (h0 : Heap) (n0 : Nat) (Z0 : n0 ≤ h0.size) (f0_ : Arv Z h0 ea ke (.object "java/lang/Object") (3 : Int32) [(.ref x0), (.ref x1), (.ref x2)] .null) (f1_ : Exa Z h0 x0 "java/lang/String") (f2_ : Exa Z h0 x1 "java/lang/String") (f3_ : Exa Z h0 x2 "java/lang/String")  :
    own_Met l (⟨"java/util/ImmutableCollections", "listFromArray", "([Ljava/lang/Object;)Ljava/util/List;"⟩ : MethodName) jdk_56_method_4_code 3 (some (.object "java/util/List")) ws (rO 5 2 5 63) #[(.ref ea)] Z h0 (Q_rmLf Z ea ke x0 x1 x2 h0 n0) := by
 refine MetFree.of_bodySF (plainFor_of_name own_h375) hisR ?_
 intro p e s m args below meth c s₁ Bd hml0 hP hK
 obtain ⟨rfl, hZ, hh⟩ := hP
 have hx := Bd.exec
 have hby := Bd.bytes
 have hml : c.maxLocals = 3 := hml0
 have hown : s.vm.findClass "java/util/ImmutableCollections" = some m.cls := findClass_of_methodNamed Bd.named
 have hnm := (name_of_methodNamed Bd.named Bd.method).1
 have X0 : Stand p l e (rO 5 2 5 63) s m #[(.ref ea)] below meth c s₁ [] 0 0 := Stand.of_body Bd
 have e0 : s₁.heap = h0 := by rw [← hh, Bd.state]; rfl
 have N0 := Fr.nil n0
 obtain ⟨B_, hB_⟩ : ∃ z, z = s₁.setTop (entryFrame m #[(.ref ea)] 3) := ⟨_, rfl⟩
 have k0 : own_K p e below (s₁.setTop (mkF m 0 #[.val (.ref ea), .unset, .unset] [])) B_ := by rw [hB_]; exact fun t k => castTop (by clear k; first | (simp [entryFrame, mkF, argsToLocals, Value.category, maxLocals]; done) | rfl) k
 have K0 : Keep h0 h0 [] := Keep.refl _ _
 obtain ⟨cl21, Ar22, -, S23, Ng24, -, -⟩ := id f0_
 have k1 : own_J p e below s₁ m 2 #[.val (.ref ea), .unset, .unset] [(.int (3 : Int32))] B_ := fun t_ hh => k0 t_ (by
  refine XS.aloadN X0.here hx rfl (hb hby own_h376) rfl rfl ?_
  refine X0.arraylength hx (by rw [e0]; exact Ar22.1) (State.isArrayOf_alike hZ.alike Ar22.2.1) (g := (mkF m 1 #[.val (.ref ea), .unset, .unset] [(.ref ea)])) rfl rfl (hb hby own_h377) _ ?_
  rw [len_of S23 Ng24]
  exact hh)
 obtain ⟨T25, h26, kA27, X28, e29, E30, A31, EA34, O32, st33⟩ := newRE X0 hx hZ hown (wT hw 274 rfl) (wT hw 84 rfl) e0 (g := (mkF m 2 #[.val (.ref ea), .unset, .unset] [(.int (3 : Int32))])) rfl (hb hby own_h378) rfl (by decide) (cap := 3) (by decide) (by decide) (by decide) (by decide) (ad := "[Ljava/lang/Object;") (by decide)
 obtain ⟨a35, g36⟩ : ∃ z, z = h0.size := ⟨_, rfl⟩
 rw [← g36] at A31 EA34 st33
 have H037 : h0.size ≤ a35 := Nat.le_trans K0.1 (Nat.le_of_eq g36.symm)
 have G38 : n0 ≤ a35 := Nat.le_trans Z0 (Nat.le_of_eq g36.symm)
 have F39 := f0_.ext E30
 have F40 := Exa.ext (h' := h26) E30 f1_
 have F41 := Exa.ext (h' := h26) E30 f2_
 have F42 := Exa.ext (h' := h26) E30 f3_
 have Z43 : n0 ≤ h26.size := Nat.le_trans Z0 E30.1
 have P44 : Keep h0 h26 [] := K0.ext E30
 have V45 : Arv Z h26 a35 kA27 (.object "java/lang/Object") (3 : Int32) [.null, .null, .null] .null := Arv.pad (Arv.new A31 (by decide)) (pad_rep [] .null 3)
 have k2 : own_J p e below T25 m 5 #[.val (.ref ea), .unset, .unset] [(.ref a35)] B_ := fun t_ hh => k1 t_ (st33 t_ hh)
 obtain ⟨cl46, Ar47, -, S48, Ng49, -, -⟩ := id F39
 obtain ⟨cl50, Ar51, -, S52, Ng53, H54, -⟩ := id F39
 have hin55 : ¬ ((0 : Int32) < 0 ∨ cl50.slots.size ≤ ((0 : Int32)).toNatClampNeg) := inb_of S52 (by decide)
 have hat56 : cl50.slots[((0 : Int32)).toNatClampNeg]? = some (.ref x0) := Has.at H54 hin55 rfl
 have k3 : own_J p e below T25 m 19 #[.val (.ref ea), .val (.ref a35), .val (.int (0 : Int32))] [(.ref x0), (.int (0 : Int32)), (.ref a35)] B_ := fun t_ hh => k2 t_ (by
  refine XS.astoreN X28.here hx rfl (hb hby own_h379) rfl rfl (l' := #[.val (.ref ea), .val (.ref a35), .unset]) rfl ?_
  refine XS.iconst X28.here hx rfl (hb hby own_h380) ?_
  refine XS.istoreN X28.here hx rfl (hb hby own_h381) rfl (l' := #[.val (.ref ea), .val (.ref a35), .val (.int (0 : Int32))]) rfl ?_
  refine XS.iloadN X28.here hx rfl (hb hby own_h382) rfl ?_
  refine XS.aloadN X28.here hx rfl (hb hby own_h383) rfl rfl ?_
  refine X28.arraylength hx (by rw [e29]; exact Ar47.1) (State.isArrayOf_alike hZ.alike Ar47.2.1) (g := (mkF m 10 #[.val (.ref ea), .val (.ref a35), .val (.int (0 : Int32))] [(.ref ea), (.int (0 : Int32))])) rfl rfl (hb hby own_h384) _ ?_
  rw [len_of S48 Ng49]
  refine XS.icmpNo X28.here hx rfl (hb hby own_h385) rfl (by decide) ?_
  refine XS.aloadN X28.here hx rfl (hb hby own_h386) rfl rfl ?_
  refine XS.iloadN X28.here hx rfl (hb hby own_h387) rfl ?_
  refine XS.aloadN X28.here hx rfl (hb hby own_h388) rfl rfl ?_
  refine XS.iloadN X28.here hx rfl (hb hby own_h389) rfl ?_
  refine X28.aaload hx (j := (0 : Int32)) (v := (.ref x0)) (by rw [e29]; exact Ar51.1) (State.isArrayOf_alike hZ.alike Ar51.2.1) rfl Ar51.2.2 hin55 hat56 (g := (mkF m 18 #[.val (.ref ea), .val (.ref a35), .val (.int (0 : Int32))] [(.int (0 : Int32)), (.ref ea), (.int (0 : Int32)), (.ref a35)])) rfl rfl (hb hby own_h390) _ ?_
  show Steps p.tables e below (T25.setTop (mkF m 19 #[.val (.ref ea), .val (.ref a35), .val (.int (0 : Int32))] [(.ref x0), (.int (0 : Int32)), (.ref a35)])) _
  exact hh)
 obtain ⟨_, _, ⟨T57, L58, k_59, n_60⟩, -, X61, ⟨Lc62, hQ63, l_64, y_65, z_66⟩, st67⟩ := Jvm.LawKit.callS X28 hx (y := (⟨"java/util/Objects", "requireNonNull", "(Ljava/lang/Object;)Ljava/lang/Object;"⟩ : MethodName)) hown (mvT hZ (wT hw 275 rfl)) (mvT hZ (wT hw 244 rfl)) (mvT hZ (wT hw 147 rfl)) (mvT hZ (wT hw 245 rfl)) (by decide) (backOf (W := 2) (rmRn l Z a0 hw [] x0 h26 n0 Z43  ) hZ (wT hw 245 rfl) (wT hw 147 rfl) (by decide) (by decide)) (g := (mkF m 19 #[.val (.ref ea), .val (.ref a35), .val (.int (0 : Int32))] [(.ref x0), (.int (0 : Int32)), (.ref a35)])) rfl (by rw [hml]; rfl) (argsL := [(.ref x0)]) (rest := [(.int (0 : Int32)), (.ref a35)]) (lenOf own_h348 rfl) rfl (by show 2 * 0 + _ ≤ _; exact Nat.le_of_eq rfl) (hb hby own_h391) (fun _ _ => ⟨rfl, e29, own_l rfl, own_l rfl⟩)
 dsimp only [Pt.U, Pt.locs, Pt.cells, Pt.slots] at X61 l_64 y_65 z_66 st67 hQ63
 subst l_64 y_65 z_66
 obtain ⟨rfl, N68, e69⟩ := hQ63
 have N70 := Fr.app N0 N68
 have k4 : own_J p e below T57 m 22 #[.val (.ref ea), .val (.ref a35), .val (.int (0 : Int32))] [(.ref x0), (.int (0 : Int32)), (.ref a35)] B_ := fun t_ hh => k3 t_ (st67 t_ hh)
 obtain ⟨cl71, Ar72, q73, S74, Ng75, H76, Gf77⟩ := id V45
 have hin78 := inb_of (j := (0 : Int32)) S74 (by decide)
 obtain ⟨T79, h80, X81, e82, W83, st84⟩ := stR X61 hx hZ e69 Ar72 (j := (0 : Int32)) hin78 rfl (Sto.ofV Ar72 q73 O32 (Ins.of_exa F40 (wT hw 85 rfl))) (g := (mkF m 22 #[.val (.ref ea), .val (.ref a35), .val (.int (0 : Int32))] [(.ref x0), (.int (0 : Int32)), (.ref a35)])) rfl rfl (hb hby own_h392)
 have N85 := Fr.snoc X81 N70 G38
 have ne87 : ea ≠ a35 := by rw [g36]; exact Nat.ne_of_lt f0_.lt
 have F86 := F39.other W83 ne87
 have F88 := Exa.wr W83 F40
 have F89 := Exa.wr W83 F41
 have F90 := Exa.wr W83 F42
 have F91 := Exa.wr W83 EA34
 have Z92 : n0 ≤ h80.size := W83.size ▸ Z43
 have P93 : Keep h0 h80 [] := P44.wr W83 (Or.inr H037)
 have V94 : Arv Z h80 a35 kA27 (.object "java/lang/Object") (3 : Int32) [(.ref x0), .null, .null] .null := Arv.set Ar72 q73 S74 Ng75 H76 Gf77 rfl W83 0 rfl (own_lt rfl)
 have k5 : own_J p e below T79 m 23 #[.val (.ref ea), .val (.ref a35), .val (.int (0 : Int32))] [] B_ := fun t_ hh => k4 t_ (st84 t_ hh)
 obtain ⟨cl95, Ar96, -, S97, Ng98, -, -⟩ := id F86
 obtain ⟨cl99, Ar100, -, S101, Ng102, H103, -⟩ := id F86
 have hin104 : ¬ ((1 : Int32) < 0 ∨ cl99.slots.size ≤ ((1 : Int32)).toNatClampNeg) := inb_of S101 (by decide)
 have hat105 : cl99.slots[((1 : Int32)).toNatClampNeg]? = some (.ref x1) := Has.at H103 hin104 rfl
 have k6 : own_J p e below T79 m 19 #[.val (.ref ea), .val (.ref a35), .val (.int (1 : Int32))] [(.ref x1), (.int (1 : Int32)), (.ref a35)] B_ := fun t_ hh => k5 t_ (by
  refine XS.iinc X81.here hx rfl (hb hby own_h393) rfl (l' := #[.val (.ref ea), .val (.ref a35), .val (.int (1 : Int32))]) rfl ?_
  refine XS.goto X81.here hx rfl (pc0 := 26) (pc' := 8) rfl (hb hby own_h394) (by decide) (by decide) ?_
  refine XS.iloadN X81.here hx rfl (hb hby own_h382) rfl ?_
  refine XS.aloadN X81.here hx rfl (hb hby own_h383) rfl rfl ?_
  refine X81.arraylength hx (by rw [e82]; exact Ar96.1) (State.isArrayOf_alike hZ.alike Ar96.2.1) (g := (mkF m 10 #[.val (.ref ea), .val (.ref a35), .val (.int (1 : Int32))] [(.ref ea), (.int (1 : Int32))])) rfl rfl (hb hby own_h384) _ ?_
  rw [len_of S97 Ng98]
  refine XS.icmpNo X81.here hx rfl (hb hby own_h385) rfl (by decide) ?_
  refine XS.aloadN X81.here hx rfl (hb hby own_h386) rfl rfl ?_
  refine XS.iloadN X81.here hx rfl (hb hby own_h387) rfl ?_
  refine XS.aloadN X81.here hx rfl (hb hby own_h388) rfl rfl ?_
  refine XS.iloadN X81.here hx rfl (hb hby own_h389) rfl ?_
  refine X81.aaload hx (j := (1 : Int32)) (v := (.ref x1)) (by rw [e82]; exact Ar100.1) (State.isArrayOf_alike hZ.alike Ar100.2.1) rfl Ar100.2.2 hin104 hat105 (g := (mkF m 18 #[.val (.ref ea), .val (.ref a35), .val (.int (1 : Int32))] [(.int (1 : Int32)), (.ref ea), (.int (1 : Int32)), (.ref a35)])) rfl rfl (hb hby own_h390) _ ?_
  exact hh)
 obtain ⟨_, _, ⟨T106, L107, k_108, n_109⟩, -, X110, ⟨Lc111, hQ112, l_113, y_114, z_115⟩, st116⟩ := Jvm.LawKit.callS X81 hx (y := (⟨"java/util/Objects", "requireNonNull", "(Ljava/lang/Object;)Ljava/lang/Object;"⟩ : MethodName)) hown (mvT hZ (wT hw 275 rfl)) (mvT hZ (wT hw 244 rfl)) (mvT hZ (wT hw 147 rfl)) (mvT hZ (wT hw 245 rfl)) (by decide) (backOf (W := 2) (rmRn l Z a0 hw [] x1 h80 n0 Z92  ) hZ (wT hw 245 rfl) (wT hw 147 rfl) (by decide) (by decide)) (g := (mkF m 19 #[.val (.ref ea), .val (.ref a35), .val (.int (1 : Int32))] [(.ref x1), (.int (1 : Int32)), (.ref a35)])) rfl (by rw [hml]; rfl) (argsL := [(.ref x1)]) (rest := [(.int (1 : Int32)), (.ref a35)]) (lenOf own_h348 rfl) rfl (by show 2 * 0 + _ ≤ _; exact Nat.le_of_eq rfl) (hb hby own_h391) (fun _ _ => ⟨rfl, e82, own_l rfl, own_l rfl⟩)
 dsimp only [Pt.U, Pt.locs, Pt.cells, Pt.slots] at X110 l_113 y_114 z_115 st116 hQ112
 subst l_113 y_114 z_115
 obtain ⟨rfl, N117, e118⟩ := hQ112
 have N119 := Fr.app N85 N117
 have k7 : own_J p e below T106 m 22 #[.val (.ref ea), .val (.ref a35), .val (.int (1 : Int32))] [(.ref x1), (.int (1 : Int32)), (.ref a35)] B_ := fun t_ hh => k6 t_ (st116 t_ hh)
 obtain ⟨cl120, Ar121, q122, S123, Ng124, H125, Gf126⟩ := id V94
 have hin127 := inb_of (j := (1 : Int32)) S123 (by decide)
 obtain ⟨T128, h129, X130, e131, W132, st133⟩ := stR X110 hx hZ e118 Ar121 (j := (1 : Int32)) hin127 rfl (Sto.ofV Ar121 q122 O32 (Ins.of_exa F89 (wT hw 85 rfl))) (g := (mkF m 22 #[.val (.ref ea), .val (.ref a35), .val (.int (1 : Int32))] [(.ref x1), (.int (1 : Int32)), (.ref a35)])) rfl rfl (hb hby own_h392)
 have N134 := Fr.snoc X130 N119 G38
 have F135 := F86.other W132 ne87
 have F136 := Exa.wr W132 F88
 have F137 := Exa.wr W132 F89
 have F138 := Exa.wr W132 F90
 have F139 := Exa.wr W132 F91
 have Z140 : n0 ≤ h129.size := W132.size ▸ Z92
 have P141 : Keep h0 h129 [] := P93.wr W132 (Or.inr H037)
 have V142 : Arv Z h129 a35 kA27 (.object "java/lang/Object") (3 : Int32) [(.ref x0), (.ref x1), .null] .null := Arv.set Ar121 q122 S123 Ng124 H125 Gf126 rfl W132 1 rfl (own_lt rfl)
 have k8 : own_J p e below T128 m 23 #[.val (.ref ea), .val (.ref a35), .val (.int (1 : Int32))] [] B_ := fun t_ hh => k7 t_ (st133 t_ hh)
 obtain ⟨cl143, Ar144, -, S145, Ng146, -, -⟩ := id F135
 obtain ⟨cl147, Ar148, -, S149, Ng150, H151, -⟩ := id F135
 have hin152 : ¬ ((2 : Int32) < 0 ∨ cl147.slots.size ≤ ((2 : Int32)).toNatClampNeg) := inb_of S149 (by decide)
 have hat153 : cl147.slots[((2 : Int32)).toNatClampNeg]? = some (.ref x2) := Has.at H151 hin152 rfl
 have k9 : own_J p e below T128 m 19 #[.val (.ref ea), .val (.ref a35), .val (.int (2 : Int32))] [(.ref x2), (.int (2 : Int32)), (.ref a35)] B_ := fun t_ hh => k8 t_ (by
  refine XS.iinc X130.here hx rfl (hb hby own_h393) rfl (l' := #[.val (.ref ea), .val (.ref a35), .val (.int (2 : Int32))]) rfl ?_
  refine XS.goto X130.here hx rfl (pc0 := 26) (pc' := 8) rfl (hb hby own_h394) (by decide) (by decide) ?_
  refine XS.iloadN X130.here hx rfl (hb hby own_h382) rfl ?_
  refine XS.aloadN X130.here hx rfl (hb hby own_h383) rfl rfl ?_
  refine X130.arraylength hx (by rw [e131]; exact Ar144.1) (State.isArrayOf_alike hZ.alike Ar144.2.1) (g := (mkF m 10 #[.val (.ref ea), .val (.ref a35), .val (.int (2 : Int32))] [(.ref ea), (.int (2 : Int32))])) rfl rfl (hb hby own_h384) _ ?_
  rw [len_of S145 Ng146]
  refine XS.icmpNo X130.here hx rfl (hb hby own_h385) rfl (by decide) ?_
  refine XS.aloadN X130.here hx rfl (hb hby own_h386) rfl rfl ?_
  refine XS.iloadN X130.here hx rfl (hb hby own_h387) rfl ?_
  refine XS.aloadN X130.here hx rfl (hb hby own_h388) rfl rfl ?_
  refine XS.iloadN X130.here hx rfl (hb hby own_h389) rfl ?_
  refine X130.aaload hx (j := (2 : Int32)) (v := (.ref x2)) (by rw [e131]; exact Ar148.1) (State.isArrayOf_alike hZ.alike Ar148.2.1) rfl Ar148.2.2 hin152 hat153 (g := (mkF m 18 #[.val (.ref ea), .val (.ref a35), .val (.int (2 : Int32))] [(.int (2 : Int32)), (.ref ea), (.int (2 : Int32)), (.ref a35)])) rfl rfl (hb hby own_h390) _ ?_
  exact hh)
 obtain ⟨_, _, ⟨T154, L155, k_156, n_157⟩, -, X158, ⟨Lc159, hQ160, l_161, y_162, z_163⟩, st164⟩ := Jvm.LawKit.callS X130 hx (y := (⟨"java/util/Objects", "requireNonNull", "(Ljava/lang/Object;)Ljava/lang/Object;"⟩ : MethodName)) hown (mvT hZ (wT hw 275 rfl)) (mvT hZ (wT hw 244 rfl)) (mvT hZ (wT hw 147 rfl)) (mvT hZ (wT hw 245 rfl)) (by decide) (backOf (W := 2) (rmRn l Z a0 hw [] x2 h129 n0 Z140  ) hZ (wT hw 245 rfl) (wT hw 147 rfl) (by decide) (by decide)) (g := (mkF m 19 #[.val (.ref ea), .val (.ref a35), .val (.int (2 : Int32))] [(.ref x2), (.int (2 : Int32)), (.ref a35)])) rfl (by rw [hml]; rfl) (argsL := [(.ref x2)]) (rest := [(.int (2 : Int32)), (.ref a35)]) (lenOf own_h348 rfl) rfl (by show 2 * 0 + _ ≤ _; exact Nat.le_of_eq rfl) (hb hby own_h391) (fun _ _ => ⟨rfl, e131, own_l rfl, own_l rfl⟩)
 dsimp only [Pt.U, Pt.locs, Pt.cells, Pt.slots] at X158 l_161 y_162 z_163 st164 hQ160
 subst l_161 y_162 z_163
 obtain ⟨rfl, N165, e166⟩ := hQ160
 have N167 := Fr.app N134 N165
 have k10 : own_J p e below T154 m 22 #[.val (.ref ea), .val (.ref a35), .val (.int (2 : Int32))] [(.ref x2), (.int (2 : Int32)), (.ref a35)] B_ := fun t_ hh => k9 t_ (st164 t_ hh)
 obtain ⟨cl168, Ar169, q170, S171, Ng172, H173, Gf174⟩ := id V142
 have hin175 := inb_of (j := (2 : Int32)) S171 (by decide)
 obtain ⟨T176, h177, X178, e179, W180, st181⟩ := stR X158 hx hZ e166 Ar169 (j := (2 : Int32)) hin175 rfl (Sto.ofV Ar169 q170 O32 (Ins.of_exa F138 (wT hw 85 rfl))) (g := (mkF m 22 #[.val (.ref ea), .val (.ref a35), .val (.int (2 : Int32))] [(.ref x2), (.int (2 : Int32)), (.ref a35)])) rfl rfl (hb hby own_h392)
 have N182 := Fr.snoc X178 N167 G38
 have F183 := F135.other W180 ne87
 have F184 := Exa.wr W180 F136
 have F185 := Exa.wr W180 F137
 have F186 := Exa.wr W180 F138
 have F187 := Exa.wr W180 F139
 have Z188 : n0 ≤ h177.size := W180.size ▸ Z140
 have P189 : Keep h0 h177 [] := P141.wr W180 (Or.inr H037)
 have V190 : Arv Z h177 a35 kA27 (.object "java/lang/Object") (3 : Int32) [(.ref x0), (.ref x1), (.ref x2)] .null := Arv.set Ar169 q170 S171 Ng172 H173 Gf174 rfl W180 2 rfl (own_lt rfl)
 have k11 : own_J p e below T176 m 23 #[.val (.ref ea), .val (.ref a35), .val (.int (2 : Int32))] [] B_ := fun t_ hh => k10 t_ (st181 t_ hh)
 obtain ⟨cl191, Ar192, -, S193, Ng194, -, -⟩ := id F183
 have k12 : own_J p e below T176 m 29 #[.val (.ref ea), .val (.ref a35), .val (.int (3 : Int32))] [] B_ := fun t_ hh => k11 t_ (by
  refine XS.iinc X178.here hx rfl (hb hby own_h393) rfl (l' := #[.val (.ref ea), .val (.ref a35), .val (.int (3 : Int32))]) rfl ?_
  refine XS.goto X178.here hx rfl (pc0 := 26) (pc' := 8) rfl (hb hby own_h394) (by decide) (by decide) ?_
  refine XS.iloadN X178.here hx rfl (hb hby own_h382) rfl ?_
  refine XS.aloadN X178.here hx rfl (hb hby own_h383) rfl rfl ?_
  refine X178.arraylength hx (by rw [e179]; exact Ar192.1) (State.isArrayOf_alike hZ.alike Ar192.2.1) (g := (mkF m 10 #[.val (.ref ea), .val (.ref a35), .val (.int (3 : Int32))] [(.ref ea), (.int (3 : Int32))])) rfl rfl (hb hby own_h384) _ ?_
  rw [len_of S193 Ng194]
  refine XS.icmpYes X178.here hx rfl (pc0 := 11) (pc' := 29) rfl (hb hby own_h385) rfl (by decide) (by decide) (by decide) ?_
  exact hh)
 obtain ⟨T195, h196, X197, e198, E199, A200, D201, U203, st202⟩ := newO X178 hx hZ hown (wT hw 179 rfl) (wT hw 276 rfl) (wT hw 277 rfl) e179 (g := (mkF m 29 #[.val (.ref ea), .val (.ref a35), .val (.int (3 : Int32))] [])) rfl (hb hby own_h395) (by decide) (by decide)
 obtain ⟨a204, g205⟩ : ∃ z, z = h177.size := ⟨_, rfl⟩
 rw [← g205] at A200 D201 U203 st202
 have H0206 : h0.size ≤ a204 := Nat.le_trans P189.1 (Nat.le_of_eq g205.symm)
 have G207 : n0 ≤ a204 := Nat.le_trans Z188 (Nat.le_of_eq g205.symm)
 have F208 := F183.ext E199
 have F209 := Exa.ext (h' := h196) E199 F184
 have F210 := Exa.ext (h' := h196) E199 F185
 have F211 := Exa.ext (h' := h196) E199 F186
 have F212 := Exa.ext (h' := h196) E199 F187
 have F213 := V190.ext E199
 have Z214 : n0 ≤ h196.size := Nat.le_trans Z188 E199.1
 have P215 : Keep h0 h196 [] := P189.ext E199
 have F216 : Fld Z h196 a204 "java/util/ImmutableCollections$ListN" "elements" "[Ljava/lang/Object;" .null := D201 (Or.inr (wT hw 287 rfl)) (ty := .array (.object "java/lang/Object")) (by decide)
 have F217 : Fld Z h196 a204 "java/util/ImmutableCollections$ListN" "allowNulls" "Z" (.int (0 : Int32)) := D201 (Or.inr (wT hw 289 rfl)) (ty := .boolean) (by decide)
 have k13 : own_J p e below T195 m 32 #[.val (.ref ea), .val (.ref a35), .val (.int (3 : Int32))] [(.ref a204)] B_ := fun t_ hh => k12 t_ (st202 t_ hh)
 have k14 : own_J p e below T195 m 35 #[.val (.ref ea), .val (.ref a35), .val (.int (3 : Int32))] [(.int (0 : Int32)), (.ref a35), (.ref a204), (.ref a204)] B_ := fun t_ hh => k13 t_ (by
  refine XS.dup X197.here hx rfl (hb hby own_h396) rfl rfl ?_
  refine XS.aloadN X197.here hx rfl (hb hby own_h397) rfl rfl ?_
  refine XS.iconst X197.here hx rfl (hb hby own_h398) ?_
  exact hh)
 obtain ⟨_, _, ⟨T218, L219, k_220, n_221⟩, -, X222, ⟨Lc223, hQ224, l_225, y_226, z_227⟩, st228⟩ := X197.specialBackNest hx (y := (⟨"java/util/ImmutableCollections$ListN", "<init>", "([Ljava/lang/Object;Z)V"⟩ : MethodName)) rfl hown (own_mvNest hZ (wT hw 278 rfl)) (mvT hZ (wT hw 279 rfl)) (mvT hZ (wT hw 281 rfl)) (by decide) (backOf (W := 1) (rmLN l Z a0 hw [] a204 a35 h196 n0 Z214 A200 F216 F217 G207 ) hZ (wT hw 281 rfl) (wT hw 277 rfl) (by decide) (by decide)) (g := (mkF m 35 #[.val (.ref ea), .val (.ref a35), .val (.int (3 : Int32))] [(.int (0 : Int32)), (.ref a35), (.ref a204), (.ref a204)])) rfl (by rw [hml]; rfl) (Steps.refl _) (a := a204) (argsL := [(.ref a35), (.int (0 : Int32))]) (rest := [(.ref a204)]) (lenOf own_h400 rfl) rfl (by show 2 * 0 + _ ≤ _; exact Nat.le_of_eq rfl) (hb hby own_h399) (fun _ _ => ⟨rfl, e198, own_l rfl, own_l rfl⟩)
 dsimp only [Pt.U, Pt.locs, Pt.cells, Pt.slots] at X222 l_225 y_226 z_227 st228 hQ224
 subst l_225 y_226 z_227
 obtain ⟨rfl, N229, K232, F230, F231, -⟩ := hQ224
 have N233 := Fr.app N182 N229
 have ne235 : ea ≠ a204 := by rw [g205]; exact Nat.ne_of_lt F183.lt
 have F234 := F208.keep K232 (ninS ne235 nin0)
 have F236 := F209.keep K232
 have F237 := F210.keep K232
 have F238 := F211.keep K232
 have F239 := F212.keep K232
 have ne241 : a35 ≠ a204 := by rw [g205]; exact Nat.ne_of_lt F187.lt
 have F240 := F213.keep K232 (ninS ne241 nin0)
 have F242 := A200.keep K232
 have Z243 : n0 ≤ T218.heap.size := Nat.le_trans Z214 K232.1
 have P244 : Keep h0 T218.heap [] := P215.trans K232 (allS (P := fun x => x ∈ [] ∨ h0.size ≤ x) (Or.inr H0206) all0)
 have e245 : T218.heap = T218.heap := rfl
 have k15 : own_J p e below T218 m 38 #[.val (.ref ea), .val (.ref a35), .val (.int (3 : Int32))] [(.ref a204)] B_ := fun t_ hh => k14 t_ (st228.trans hh)
 obtain ⟨fs, hr, hrun, hended, hW, hsame⟩ := X222.leave (v := some (.ref a204)) (fun h => by rw [Bd.returns] at h; cases h)
 refine ⟨_, _, (own_from hB_ (k15 _ (retOut X222 hx (t := .object "java/util/List") Bd.returns rfl (Or.inr (Or.inr (Or.inr (Or.inr ⟨rfl, rfl, rfl⟩)))) (hb hby own_h401) hr))), hrun, hended, _, _, rfl, ?_, ⟨_, rfl⟩, hW, hsame.mono (own_l rfl) (own_l rfl)⟩
 show Q_rmLf Z ea ke x0 x1 x2 h0 n0 _ T218.heap _
 rw [e245]
 exact ⟨a204, a35, kA27, rfl, N233, P244, F230, F231, F240, G207, H0206, H037, G38, ne241, trivial⟩
def Q_rmLo1 (Z : State) (ea : Addr) (ke : ClassId) (x0 : Addr) (em : Addr) (h0 : Heap) (n0 : Nat) (v : Option Value) (h : Heap) (L : List Loc) : Prop := ∃ r : Addr, v = some (.ref r) ∧ Fr n0 L ∧ Keep h0 h [] ∧ Exa Z h r "java/util/ImmutableCollections$List12" ∧ Fld Z h r "java/util/ImmutableCollections$List12" "e0" "Ljava/lang/Object;" (.ref x0) ∧ Fld Z h r "java/util/ImmutableCollections$List12" "e1" "Ljava/lang/Object;" (.ref em) ∧ n0 ≤ r ∧ h0.size ≤ r ∧ True
theorem own_h402 : plainName "java/util/List" = true := by first | (simp [plainName, overriddenIn]; done) | decide +kernel
theorem own_h403 : decode jdk_40_method_47_code 0 = .ok (.aload_n 0, 1) := by decide +kernel
theorem own_h404 : decode jdk_40_method_47_code 1 = .ok (.arraylength, 1) := by decide +kernel
theorem own_h405 : decode jdk_40_method_47_code 2 = .ok (.tableswitch 57 0 2 #[26, 32, 43], 26) := by decide +kernel
theorem own_h406 : decode jdk_40_method_47_code 34 = .ok (.new 96, 3) := by decide +kernel
theorem own_h407 : decode jdk_40_method_47_code 37 = .ok (.dup, 1) := by decide +kernel
theorem own_h408 : decode jdk_40_method_47_code 38 = .ok (.aload_n 0, 1) := by decide +kernel
theorem own_h409 : decode jdk_40_method_47_code 39 = .ok (.iconst 0, 1) := by decide +kernel
theorem own_h410 : decode jdk_40_method_47_code 40 = .ok (.aaload, 1) := by decide +kernel
theorem own_h411 : decode jdk_40_method_47_code 41 = .ok (.invokespecial 98, 3) := by decide +kernel
theorem own_h412 : parseMethodDescriptor "(Ljava/lang/Object;)V" = some ⟨[.object "java/lang/Object"], none⟩ := by decide +kernel
theorem own_h413 : decode jdk_40_method_47_code 44 = .ok (.areturn, 1) := by decide +kernel
set_option maxRecDepth 65536 in
set_option maxHeartbeats 40000000 in
theorem rmLo1 (l : Launch) (Z : State) (a0 : Array Value) (hw : ∀ d ∈ tables_1, d.before a0 Z = true) (ws : List Jvm.Cond) (ea : Addr) (ke : ClassId) (x0 : Addr) (em : Addr) (h0 : Heap) (n0 : Nat) (Z0 : n0 ≤ h0.size) (f0_ : Arv Z h0 ea ke (.object "java/lang/Object") (1 : Int32) [(.ref x0)] .null) (f1_ : Exa Z h0 x0 "java/lang/String") (f2_ : Old Z n0 h0) (sE : Sta Z Z.heap "java/util/ImmutableCollections" "EMPTY" "Ljava/lang/Object;" (.ref em)) :
    own_Met l (⟨"java/util/List", "of", "([Ljava/lang/Object;)Ljava/util/List;"⟩ : MethodName) jdk_40_method_47_code 2 (some (.object "java/util/List")) ws (rO 5 1 2 62) #[(.ref ea)] Z h0 (Q_rmLo1 Z ea ke x0 em h0 n0) := by
 refine MetFree.of_bodySF (plainFor_of_name own_h402) hisR ?_
 intro p e s m args below meth c s₁ Bd hml0 hP hK
 obtain ⟨rfl, hZ, hh⟩ := hP
 have hx := Bd.exec
 have hby := Bd.bytes
 have hml : c.maxLocals = 2 := hml0
 have hown : s.vm.findClass "java/util/List" = some m.cls := findClass_of_methodNamed Bd.named
 have hnm := (name_of_methodNamed Bd.named Bd.method).1
 have X0 : Stand p l e (rO 5 1 2 62) s m #[(.ref ea)] below meth c s₁ [] 0 0 := Stand.of_body Bd
 have e0 : s₁.heap = h0 := by rw [← hh, Bd.state]; rfl
 have N0 := Fr.nil n0
 obtain ⟨B_, hB_⟩ : ∃ z, z = s₁.setTop (entryFrame m #[(.ref ea)] 2) := ⟨_, rfl⟩
 have k0 : own_K p e below (s₁.setTop (mkF m 0 #[.val (.ref ea), .unset] [])) B_ := by rw [hB_]; exact fun t k => castTop (by clear k; first | (simp [entryFrame, mkF, argsToLocals, Value.category, maxLocals]; done) | rfl) k
 have K0 : Keep h0 h0 [] := Keep.refl _ _
 obtain ⟨cl21, Ar22, -, S23, Ng24, -, -⟩ := id f0_
 have k1 : own_J p e below s₁ m 34 #[.val (.ref ea), .unset] [] B_ := fun t_ hh => k0 t_ (by
  refine XS.aloadN X0.here hx rfl (hb hby own_h403) rfl rfl ?_
  refine X0.arraylength hx (by rw [e0]; exact Ar22.1) (State.isArrayOf_alike hZ.alike Ar22.2.1) (g := (mkF m 1 #[.val (.ref ea), .unset] [(.ref ea)])) rfl rfl (hb hby own_h404) _ ?_
  rw [len_of S23 Ng24]
  refine XS.tswIn X0.here hx rfl (pc0 := 2) (pc' := 34) (o := 32) rfl (hb hby own_h405) rfl (by decide) rfl (by decide) (by decide) ?_
  exact hh)
 obtain ⟨T25, h26, X27, e28, E29, A30, D31, U33, st32⟩ := newO X0 hx hZ hown (wT hw 222 rfl) (wT hw 223 rfl) (wT hw 224 rfl) e0 (g := (mkF m 34 #[.val (.ref ea), .unset] [])) rfl (hb hby own_h406) (by decide) (by decide)
 obtain ⟨a34, g35⟩ : ∃ z, z = h0.size := ⟨_, rfl⟩
 rw [← g35] at A30 D31 U33 st32
 have H036 : h0.size ≤ a34 := Nat.le_trans K0.1 (Nat.le_of_eq g35.symm)
 have G37 : n0 ≤ a34 := Nat.le_trans Z0 (Nat.le_of_eq g35.symm)
 have F38 := f0_.ext E29
 have F39 := Exa.ext (h' := h26) E29 f1_
 have Z40 : n0 ≤ h26.size := Nat.le_trans Z0 E29.1
 have O41 := f2_.ext E29
 have P42 : Keep h0 h26 [] := K0.ext E29
 have F43 : Fld Z h26 a34 "java/util/ImmutableCollections$List12" "e0" "Ljava/lang/Object;" .null := D31 (Or.inr (wT hw 247 rfl)) (ty := .object "java/lang/Object") (by decide)
 have F44 : Fld Z h26 a34 "java/util/ImmutableCollections$List12" "e1" "Ljava/lang/Object;" .null := D31 (Or.inr (wT hw 249 rfl)) (ty := .object "java/lang/Object") (by decide)
 have k2 : own_J p e below T25 m 37 #[.val (.ref ea), .unset] [(.ref a34)] B_ := fun t_ hh => k1 t_ (st32 t_ hh)
 obtain ⟨cl45, Ar46, -, S47, Ng48, H49, -⟩ := id F38
 have hin50 : ¬ ((0 : Int32) < 0 ∨ cl45.slots.size ≤ ((0 : Int32)).toNatClampNeg) := inb_of S47 (by decide)
 have hat51 : cl45.slots[((0 : Int32)).toNatClampNeg]? = some (.ref x0) := Has.at H49 hin50 rfl
 have k3 : own_J p e below T25 m 41 #[.val (.ref ea), .unset] [(.ref x0), (.ref a34), (.ref a34)] B_ := fun t_ hh => k2 t_ (by
  refine XS.dup X27.here hx rfl (hb hby own_h407) rfl rfl ?_
  refine XS.aloadN X27.here hx rfl (hb hby own_h408) rfl rfl ?_
  refine XS.iconst X27.here hx rfl (hb hby own_h409) ?_
  refine X27.aaload hx (j := (0 : Int32)) (v := (.ref x0)) (by rw [e28]; exact Ar46.1) (State.isArrayOf_alike hZ.alike Ar46.2.1) rfl Ar46.2.2 hin50 hat51 (g := (mkF m 40 #[.val (.ref ea), .unset] [(.int (0 : Int32)), (.ref ea), (.ref a34), (.ref a34)])) rfl rfl (hb hby own_h410) _ ?_
  exact hh)
 obtain ⟨_, _, ⟨T52, L53, k_54, n_55⟩, -, X56, ⟨Lc57, hQ58, l_59, y_60, z_61⟩, st62⟩ := X27.specialBack hx (y := (⟨"java/util/ImmutableCollections$List12", "<init>", "(Ljava/lang/Object;)V"⟩ : MethodName)) rfl hown (mvT hZ (wT hw 306 rfl)) (mvT hZ (wT hw 307 rfl)) (mvT hZ (wT hw 308 rfl)) (by decide) (backOf (W := 1) (rmL21 l Z a0 hw [] a34 x0 em h26 n0 Z40 A30 F43 F44 G37 O41 sE) hZ (wT hw 308 rfl) (wT hw 224 rfl) (by decide) (by decide)) (g := (mkF m 41 #[.val (.ref ea), .unset] [(.ref x0), (.ref a34), (.ref a34)])) rfl (by rw [hml]; rfl) (Steps.refl _) (a := a34) (argsL := [(.ref x0)]) (rest := [(.ref a34)]) (lenOf own_h412 rfl) rfl (by show 2 * 0 + _ ≤ _; exact Nat.le_of_eq rfl) (hb hby own_h411) (fun _ _ => ⟨rfl, e28, own_l rfl, own_l rfl⟩)
 dsimp only [Pt.U, Pt.locs, Pt.cells, Pt.slots] at X56 l_59 y_60 z_61 st62 hQ58
 subst l_59 y_60 z_61
 obtain ⟨rfl, N63, K67, F64, F65, F66, -⟩ := hQ58
 have N68 := Fr.app N0 N63
 have ne70 : ea ≠ a34 := by rw [g35]; exact Nat.ne_of_lt f0_.lt
 have F69 := F38.keep K67 (ninS ne70 nin0)
 have F71 := F39.keep K67
 have F72 := A30.keep K67
 have Z73 : n0 ≤ T52.heap.size := Nat.le_trans Z40 K67.1
 have O74 := O41.keep K67 (allS G37 all0)
 have P75 : Keep h0 T52.heap [] := P42.trans K67 (allS (P := fun x => x ∈ [] ∨ h0.size ≤ x) (Or.inr H036) all0)
 have e76 : T52.heap = T52.heap := rfl
 have k4 : own_J p e below T52 m 44 #[.val (.ref ea), .unset] [(.ref a34)] B_ := fun t_ hh => k3 t_ (st62.trans hh)
 obtain ⟨fs, hr, hrun, hended, hW, hsame⟩ := X56.leave (v := some (.ref a34)) (fun h => by rw [Bd.returns] at h; cases h)
 refine ⟨_, _, (own_from hB_ (k4 _ (retOut X56 hx (t := .object "java/util/List") Bd.returns rfl (Or.inr (Or.inr (Or.inr (Or.inr ⟨rfl, rfl, rfl⟩)))) (hb hby own_h413) hr))), hrun, hended, _, _, rfl, ?_, ⟨_, rfl⟩, hW, hsame.mono (own_l rfl) (own_l rfl)⟩
 show Q_rmLo1 Z ea ke x0 em h0 n0 _ T52.heap _
 rw [e76]
 exact ⟨a34, rfl, N68, P75, F64, F65, F66, G37, H036, trivial⟩
def Q_rmLc1 (Z : State) (a : Addr) (ea : Addr) (ke : ClassId) (x0 : Addr) (em : Addr) (h0 : Heap) (n0 : Nat) (v : Option Value) (h : Heap) (L : List Loc) : Prop := ∃ r : Addr, v = some (.ref r) ∧ Fr n0 L ∧ Keep h0 h [] ∧ Exa Z h r "java/util/ImmutableCollections$List12" ∧ Fld Z h r "java/util/ImmutableCollections$List12" "e0" "Ljava/lang/Object;" (.ref x0) ∧ Fld Z h r "java/util/ImmutableCollections$List12" "e1" "Ljava/lang/Object;" (.ref em) ∧ n0 ≤ r ∧ h0.size ≤ r ∧ True
theorem own_h414 : decode jdk_56_method_3_code 0 = .ok (.aload_n 0, 1) := by decide +kernel
theorem own_h415 : decode jdk_56_method_3_code 1 = .ok (.instanceof 10, 3) := by decide +kernel
theorem own_h416 : decode jdk_56_method_3_code 4 = .ok (.ifCond .ne 22, 3) := by decide +kernel
theorem own_h417 : decode jdk_56_method_3_code 7 = .ok (.aload_n 0, 1) := by decide +kernel
theorem own_h418 : decode jdk_56_method_3_code 8 = .ok (.instanceof 12, 3) := by decide +kernel
theorem own_h419 : decode jdk_56_method_3_code 11 = .ok (.ifCond .eq 20, 3) := by decide +kernel
theorem own_h420 : decode jdk_56_method_3_code 31 = .ok (.aload_n 0, 1) := by decide +kernel
theorem own_h421 : decode jdk_56_method_3_code 32 = .ok (.invokeinterface 20 1, 5) := by decide +kernel
theorem own_h422 : parseMethodDescriptor "()Z" = some ⟨[], some .boolean⟩ := by decide +kernel
theorem own_h423 : decode jdk_56_method_3_code 37 = .ok (.ifCond .eq 7, 3) := by decide +kernel
theorem own_h424 : decode jdk_56_method_3_code 44 = .ok (.aload_n 0, 1) := by decide +kernel
theorem own_h425 : decode jdk_56_method_3_code 45 = .ok (.invokeinterface 30 1, 5) := by decide +kernel
theorem own_h426 : decode jdk_56_method_3_code 50 = .ok (.invokestatic 34, 3) := by decide +kernel
theorem own_h427 : parseMethodDescriptor "([Ljava/lang/Object;)Ljava/util/List;" = some ⟨[.array (.object "java/lang/Object")], some (.object "java/util/List")⟩ := by decide +kernel
theorem own_h428 : decode jdk_56_method_3_code 53 = .ok (.areturn, 1) := by decide +kernel
set_option maxRecDepth 65536 in
set_option maxHeartbeats 40000000 in
theorem rmLc1 (l : Launch) (Z : State) (a0 : Array Value) (hw : ∀ d ∈ tables_1, d.before a0 Z = true) (ws : List Jvm.Cond) (a : Addr) (ea : Addr) (ke : ClassId) (x0 : Addr) (em : Addr) (h0 : Heap) (n0 : Nat) (Z0 : n0 ≤ h0.size) (f0_ : Exa Z h0 a "java/util/ArrayList") (f1_ : Fld Z h0 a "java/util/ArrayList" "elementData" "[Ljava/lang/Object;" (.ref ea)) (f2_ : Fld Z h0 a "java/util/ArrayList" "size" "I" (.int (1 : Int32))) (f3_ : Exa Z h0 ea "[Ljava/lang/Object;") (f4_ : Arv Z h0 ea ke (.object "java/lang/Object") (10 : Int32) [(.ref x0), .null, .null, .null, .null, .null, .null, .null, .null, .null] .null) (f5_ : Exa Z h0 x0 "java/lang/String") (f6_ : Old Z n0 h0) (sE : Sta Z Z.heap "java/util/ImmutableCollections" "EMPTY" "Ljava/lang/Object;" (.ref em)) (mr : Addr) (hM : own_Mir Z "[Ljava/lang/Object;" mr) :
    own_Met l (⟨"java/util/ImmutableCollections", "listCopy", "(Ljava/util/Collection;)Ljava/util/List;"⟩ : MethodName) jdk_56_method_3_code 2 (some (.object "java/util/List")) ws (rO 6 2 3 80) #[(.ref a)] Z h0 (Q_rmLc1 Z a ea ke x0 em h0 n0) := by
 refine MetFree.of_bodySF (plainFor_of_name own_h375) hisR ?_
 intro p e s m args below meth c s₁ Bd hml0 hP hK
 obtain ⟨rfl, hZ, hh⟩ := hP
 have hx := Bd.exec
 have hby := Bd.bytes
 have hml : c.maxLocals = 2 := hml0
 have hown : s.vm.findClass "java/util/ImmutableCollections" = some m.cls := findClass_of_methodNamed Bd.named
 have hnm := (name_of_methodNamed Bd.named Bd.method).1
 have X0 : Stand p l e (rO 6 2 3 80) s m #[(.ref a)] below meth c s₁ [] 0 0 := Stand.of_body Bd
 have e0 : s₁.heap = h0 := by rw [← hh, Bd.state]; rfl
 have N0 := Fr.nil n0
 obtain ⟨B_, hB_⟩ : ∃ z, z = s₁.setTop (entryFrame m #[(.ref a)] 2) := ⟨_, rfl⟩
 have k0 : own_K p e below (s₁.setTop (mkF m 0 #[.val (.ref a), .unset] [])) B_ := by rw [hB_]; exact fun t k => castTop (by clear k; first | (simp [entryFrame, mkF, argsToLocals, Value.category, maxLocals]; done) | rfl) k
 have K0 : Keep h0 h0 [] := Keep.refl _ _
 have k1 : own_J p e below s₁ m 1 #[.val (.ref a), .unset] [(.ref a)] B_ := fun t_ hh => k0 t_ (by
  refine XS.aloadN X0.here hx rfl (hb hby own_h414) rfl rfl ?_
  exact hh)
 obtain ⟨T21, X22, e23, st24⟩ := instNo X0 hx hZ hown (wT hw 174 rfl) e0 f0_ (own_NSno (wT hw 175 rfl) (wT hw 223 rfl) (NS.step (wT hw 175 rfl) (NS.step (wT hw 176 rfl) (NS.step (wT hw 177 rfl) (own_NSroot (wT hw 178 rfl) (wT hw 223 rfl) (by decide)) (by decide)) (by decide)) (by decide)) (by decide)) (g := (mkF m 1 #[.val (.ref a), .unset] [(.ref a)])) rfl rfl (hb hby own_h415)
 have k2 : own_J p e below T21 m 4 #[.val (.ref a), .unset] [(.int (0 : Int32))] B_ := fun t_ hh => k1 t_ (st24 t_ hh)
 have k3 : own_J p e below T21 m 8 #[.val (.ref a), .unset] [(.ref a)] B_ := fun t_ hh => k2 t_ (by
  refine XS.ifNo X22.here hx rfl (hb hby own_h416) rfl (by decide) ?_
  refine XS.aloadN X22.here hx rfl (hb hby own_h417) rfl rfl ?_
  exact hh)
 obtain ⟨T25, X26, e27, st28⟩ := instNo X22 hx hZ hown (wT hw 179 rfl) e23 f0_ (own_NSno (wT hw 175 rfl) (wT hw 276 rfl) (NS.step (wT hw 175 rfl) (NS.step (wT hw 176 rfl) (NS.step (wT hw 177 rfl) (own_NSroot (wT hw 178 rfl) (wT hw 276 rfl) (by decide)) (by decide)) (by decide)) (by decide)) (by decide)) (g := (mkF m 8 #[.val (.ref a), .unset] [(.ref a)])) rfl rfl (hb hby own_h418)
 have k4 : own_J p e below T25 m 11 #[.val (.ref a), .unset] [(.int (0 : Int32))] B_ := fun t_ hh => k3 t_ (st28 t_ hh)
 have k5 : own_J p e below T25 m 32 #[.val (.ref a), .unset] [(.ref a)] B_ := fun t_ hh => k4 t_ (by
  refine XS.ifYes X26.here hx rfl (pc0 := 11) (pc' := 31) rfl (hb hby own_h419) rfl (by decide) (by decide) (by decide) ?_
  refine XS.aloadN X26.here hx rfl (hb hby own_h420) rfl rfl ?_
  exact hh)
 obtain ⟨cq40, kq41, qa42, qb43, qc44⟩ := isOf hZ e27 f0_
 obtain ⟨_, _, ⟨T29, L30, k_31, n_32⟩, -, X33, ⟨Lc34, hQ35, l_36, y_37, z_38⟩, st39⟩ := X26.interfaceBack hx (xi := (⟨"java/util/Collection", "isEmpty", "()Z"⟩ : MethodName)) (y := (⟨"java/util/ArrayList", "isEmpty", "()Z"⟩ : MethodName)) hown (mvT hZ (wT hw 180 rfl)) (mvT hZ (wT hw 181 rfl)) (mvT hZ (wT hw 182 rfl)) (mvT hZ (wT hw 183 rfl)) (mvT hZ (wT hw 184 rfl)) (mvT hZ (wT hw 185 rfl)) (mvT hZ (wT hw 186 rfl)) (mvT hZ (wT hw 187 rfl)) (by decide) (backOf (W := 0) (rmIe l Z a0 hw [] a (1 : Int32) h0 n0 Z0 f2_ (by decide) ) hZ (wT hw 188 rfl) (wT hw 29 rfl) (by decide) (by decide)) qa42 qb43 qc44 (g := (mkF m 32 #[.val (.ref a), .unset] [(.ref a)])) rfl (by rw [hml]; rfl) (Steps.refl _) (argsL := []) (rest := []) (lenOf own_h422 rfl) rfl (by show 2 * 0 + _ ≤ _; exact Nat.le_of_eq rfl) (hb hby own_h421) (fun _ _ => ⟨rfl, e27, own_l rfl, own_l rfl⟩)
 dsimp only [Pt.U, Pt.locs, Pt.cells, Pt.slots] at X33 l_36 y_37 z_38 st39 hQ35
 subst l_36 y_37 z_38
 obtain ⟨rfl, N45, e46⟩ := hQ35
 have N47 := Fr.app N0 N45
 have k6 : own_J p e below T29 m 37 #[.val (.ref a), .unset] [(.int (0 : Int32))] B_ := fun t_ hh => k5 t_ (st39.trans hh)
 have k7 : own_J p e below T29 m 45 #[.val (.ref a), .unset] [(.ref a)] B_ := fun t_ hh => k6 t_ (by
  refine XS.ifYes X33.here hx rfl (pc0 := 37) (pc' := 44) rfl (hb hby own_h423) rfl (by decide) (by decide) (by decide) ?_
  refine XS.aloadN X33.here hx rfl (hb hby own_h424) rfl rfl ?_
  exact hh)
 obtain ⟨cq59, kq60, qa61, qb62, qc63⟩ := isOf hZ e46 f0_
 obtain ⟨_, _, ⟨T48, L49, k_50, n_51⟩, -, X52, ⟨Lc53, hQ54, l_55, y_56, z_57⟩, st58⟩ := X33.interfaceBack hx (xi := (⟨"java/util/Collection", "toArray", "()[Ljava/lang/Object;"⟩ : MethodName)) (y := (⟨"java/util/ArrayList", "toArray", "()[Ljava/lang/Object;"⟩ : MethodName)) hown (mvT hZ (wT hw 189 rfl)) (mvT hZ (wT hw 190 rfl)) (mvT hZ (wT hw 191 rfl)) (mvT hZ (wT hw 192 rfl)) (mvT hZ (wT hw 193 rfl)) (mvT hZ (wT hw 194 rfl)) (mvT hZ (wT hw 195 rfl)) (mvT hZ (wT hw 187 rfl)) (by decide) (backOf (W := 0) (rmTa1 l Z a0 hw [] a ea ke x0 h0 n0 Z0 f1_ f2_ f3_ f4_ f5_ mr hM) hZ (wT hw 196 rfl) (wT hw 29 rfl) (by decide) (by decide)) qa61 qb62 qc63 (g := (mkF m 45 #[.val (.ref a), .unset] [(.ref a)])) rfl (by rw [hml]; rfl) (Steps.refl _) (argsL := []) (rest := []) (lenOf own_h233 rfl) rfl (by show 2 * 0 + _ ≤ _; exact Nat.le_of_eq rfl) (hb hby own_h425) (fun _ _ => ⟨rfl, e46, own_l rfl, own_l rfl⟩)
 dsimp only [Pt.U, Pt.locs, Pt.cells, Pt.slots] at X52 l_55 y_56 z_57 st58 hQ54
 subst l_55 y_56 z_57
 obtain ⟨r65, kr66, rfl, N64, K71, F67, F68, F69, F70, -⟩ := hQ54
 have N72 := Fr.app N47 N64
 have H073 : h0.size ≤ r65 := Nat.le_trans K0.1 F70
 have F74 := f0_.keep K71
 have F75 := f1_.keep K71 nin0
 have F76 := f2_.keep K71 nin0
 have F77 := f3_.keep K71
 have F78 := f4_.keep K71 nin0
 have F79 := f5_.keep K71
 have Z80 : n0 ≤ T48.heap.size := Nat.le_trans Z0 K71.1
 have O81 := f6_.keep K71 all0
 have P82 : Keep h0 T48.heap [] := K0.trans K71 (fun _ q => nomatch q)
 have e83 : T48.heap = T48.heap := rfl
 have k8 : own_J p e below T48 m 50 #[.val (.ref a), .unset] [(.ref r65)] B_ := fun t_ hh => k7 t_ (st58.trans hh)
 obtain ⟨_, _, ⟨T84, L85, k_86, n_87⟩, -, X88, ⟨Lc89, hQ90, l_91, y_92, z_93⟩, st94⟩ := Jvm.LawKit.callS X52 hx (y := (⟨"java/util/List", "of", "([Ljava/lang/Object;)Ljava/util/List;"⟩ : MethodName)) hown (mvT hZ (wT hw 219 rfl)) (mvT hZ (wT hw 220 rfl)) (mvT hZ (wT hw 168 rfl)) (mvT hZ (wT hw 221 rfl)) (by decide) (backOf (W := 0) (rmLo1 l Z a0 hw [] r65 kr66 x0 em T48.heap n0 Z80 F67 F79 O81 sE) hZ (wT hw 221 rfl) (wT hw 168 rfl) (by decide) (by decide)) (g := (mkF m 50 #[.val (.ref a), .unset] [(.ref r65)])) rfl (by rw [hml]; rfl) (argsL := [(.ref r65)]) (rest := []) (lenOf own_h427 rfl) rfl (by show 2 * 0 + _ ≤ _; exact Nat.le_of_eq rfl) (hb hby own_h426) (fun _ _ => ⟨rfl, e83, own_l rfl, own_l rfl⟩)
 dsimp only [Pt.U, Pt.locs, Pt.cells, Pt.slots] at X88 l_91 y_92 z_93 st94 hQ90
 subst l_91 y_92 z_93
 obtain ⟨r96, rfl, N95, K102, F97, F98, F99, F100, F101, -⟩ := hQ90
 have N103 := Fr.app N72 N95
 have H0104 : h0.size ≤ r96 := Nat.le_trans P82.1 F101
 have F105 := F74.keep K102
 have F106 := F75.keep K102 nin0
 have F107 := F76.keep K102 nin0
 have F108 := F77.keep K102
 have F109 := F78.keep K102 nin0
 have F110 := F79.keep K102
 have F111 := F67.keep K102 nin0
 have Z112 : n0 ≤ T84.heap.size := Nat.le_trans Z80 K102.1
 have O113 := O81.keep K102 all0
 have P114 : Keep h0 T84.heap [] := P82.trans K102 (fun _ q => nomatch q)
 have e115 : T84.heap = T84.heap := rfl
 have k9 : own_J p e below T84 m 53 #[.val (.ref a), .unset] [(.ref r96)] B_ := fun t_ hh => k8 t_ (st94 t_ hh)
 obtain ⟨fs, hr, hrun, hended, hW, hsame⟩ := X88.leave (v := some (.ref r96)) (fun h => by rw [Bd.returns] at h; cases h)
 refine ⟨_, _, (own_from hB_ (k9 _ (retOut X88 hx (t := .object "java/util/List") Bd.returns rfl (Or.inr (Or.inr (Or.inr (Or.inr ⟨rfl, rfl, rfl⟩)))) (hb hby own_h428) hr))), hrun, hended, _, _, rfl, ?_, ⟨_, rfl⟩, hW, hsame.mono (own_l rfl) (own_l rfl)⟩
 show Q_rmLc1 Z a ea ke x0 em h0 n0 _ T84.heap _
 rw [e115]
 exact ⟨r96, rfl, N103, P114, F97, F98, F99, F100, H0104, trivial⟩
def Q_rmCo1 (Z : State) (a : Addr) (ea : Addr) (ke : ClassId) (x0 : Addr) (em : Addr) (h0 : Heap) (n0 : Nat) (v : Option Value) (h : Heap) (L : List Loc) : Prop := ∃ r : Addr, v = some (.ref r) ∧ Fr n0 L ∧ Keep h0 h [] ∧ Exa Z h r "java/util/ImmutableCollections$List12" ∧ Fld Z h r "java/util/ImmutableCollections$List12" "e0" "Ljava/lang/Object;" (.ref x0) ∧ Fld Z h r "java/util/ImmutableCollections$List12" "e1" "Ljava/lang/Object;" (.ref em) ∧ n0 ≤ r ∧ h0.size ≤ r ∧ True
theorem own_h429 : decode jdk_40_method_48_code 0 = .ok (.aload_n 0, 1) := by decide +kernel
theorem own_h430 : decode jdk_40_method_48_code 1 = .ok (.invokestatic 112, 3) := by decide +kernel
theorem own_h431 : parseMethodDescriptor "(Ljava/util/Collection;)Ljava/util/List;" = some ⟨[.object "java/util/Collection"], some (.object "java/util/List")⟩ := by decide +kernel
theorem own_h432 : decode jdk_40_method_48_code 4 = .ok (.areturn, 1) := by decide +kernel
set_option maxRecDepth 65536 in
set_option maxHeartbeats 40000000 in
theorem rmCo1 (l : Launch) (Z : State) (a0 : Array Value) (hw : ∀ d ∈ tables_1, d.before a0 Z = true) (ws : List Jvm.Cond) (a : Addr) (ea : Addr) (ke : ClassId) (x0 : Addr) (em : Addr) (h0 : Heap) (n0 : Nat) (Z0 : n0 ≤ h0.size) (f0_ : Exa Z h0 a "java/util/ArrayList") (f1_ : Fld Z h0 a "java/util/ArrayList" "elementData" "[Ljava/lang/Object;" (.ref ea)) (f2_ : Fld Z h0 a "java/util/ArrayList" "size" "I" (.int (1 : Int32))) (f3_ : Exa Z h0 ea "[Ljava/lang/Object;") (f4_ : Arv Z h0 ea ke (.object "java/lang/Object") (10 : Int32) [(.ref x0), .null, .null, .null, .null, .null, .null, .null, .null, .null] .null) (f5_ : Exa Z h0 x0 "java/lang/String") (f6_ : Old Z n0 h0) (sE : Sta Z Z.heap "java/util/ImmutableCollections" "EMPTY" "Ljava/lang/Object;" (.ref em)) (mr : Addr) (hM : own_Mir Z "[Ljava/lang/Object;" mr) :
    own_Met l (⟨"java/util/List", "copyOf", "(Ljava/util/Collection;)Ljava/util/List;"⟩ : MethodName) jdk_40_method_48_code 1 (some (.object "java/util/List")) ws (rO 7 2 3 93) #[(.ref a)] Z h0 (Q_rmCo1 Z a ea ke x0 em h0 n0) := by
 refine MetFree.of_bodySF (plainFor_of_name own_h402) hisR ?_
 intro p e s m args below meth c s₁ Bd hml0 hP hK
 obtain ⟨rfl, hZ, hh⟩ := hP
 have hx := Bd.exec
 have hby := Bd.bytes
 have hml : c.maxLocals = 1 := hml0
 have hown : s.vm.findClass "java/util/List" = some m.cls := findClass_of_methodNamed Bd.named
 have hnm := (name_of_methodNamed Bd.named Bd.method).1
 have X0 : Stand p l e (rO 7 2 3 93) s m #[(.ref a)] below meth c s₁ [] 0 0 := Stand.of_body Bd
 have e0 : s₁.heap = h0 := by rw [← hh, Bd.state]; rfl
 have N0 := Fr.nil n0
 obtain ⟨B_, hB_⟩ : ∃ z, z = s₁.setTop (entryFrame m #[(.ref a)] 1) := ⟨_, rfl⟩
 have k0 : own_K p e below (s₁.setTop (mkF m 0 #[.val (.ref a)] [])) B_ := by rw [hB_]; exact fun t k => castTop (by clear k; first | (simp [entryFrame, mkF, argsToLocals, Value.category, maxLocals]; done) | rfl) k
 have K0 : Keep h0 h0 [] := Keep.refl _ _
 have k1 : own_J p e below s₁ m 1 #[.val (.ref a)] [(.ref a)] B_ := fun t_ hh => k0 t_ (by
  refine XS.aloadN X0.here hx rfl (hb hby own_h429) rfl rfl ?_
  exact hh)
 obtain ⟨_, _, ⟨T21, L22, k_23, n_24⟩, -, X25, ⟨Lc26, hQ27, l_28, y_29, z_30⟩, st31⟩ := Jvm.LawKit.callS X0 hx (y := (⟨"java/util/ImmutableCollections", "listCopy", "(Ljava/util/Collection;)Ljava/util/List;"⟩ : MethodName)) hown (mvT hZ (wT hw 170 rfl)) (mvT hZ (wT hw 171 rfl)) (mvT hZ (wT hw 172 rfl)) (mvT hZ (wT hw 173 rfl)) (by decide) (backOf (W := 0) (rmLc1 l Z a0 hw [] a ea ke x0 em h0 n0 Z0 f0_ f1_ f2_ f3_ f4_ f5_ f6_ sE mr hM) hZ (wT hw 173 rfl) (wT hw 172 rfl) (by decide) (by decide)) (g := (mkF m 1 #[.val (.ref a)] [(.ref a)])) rfl (by rw [hml]; rfl) (argsL := [(.ref a)]) (rest := []) (lenOf own_h431 rfl) rfl (by show 2 * 0 + _ ≤ _; exact Nat.le_of_eq rfl) (hb hby own_h430) (fun _ _ => ⟨rfl, e0, own_l rfl, own_l rfl⟩)
 dsimp only [Pt.U, Pt.locs, Pt.cells, Pt.slots] at X25 l_28 y_29 z_30 st31 hQ27
 subst l_28 y_29 z_30
 obtain ⟨r33, rfl, N32, K39, F34, F35, F36, F37, F38, -⟩ := hQ27
 have N40 := Fr.app N0 N32
 have H041 : h0.size ≤ r33 := Nat.le_trans K0.1 F38
 have F42 := f0_.keep K39
 have F43 := f1_.keep K39 nin0
 have F44 := f2_.keep K39 nin0
 have F45 := f3_.keep K39
 have F46 := f4_.keep K39 nin0
 have F47 := f5_.keep K39
 have Z48 : n0 ≤ T21.heap.size := Nat.le_trans Z0 K39.1
 have O49 := f6_.keep K39 all0
 have P50 : Keep h0 T21.heap [] := K0.trans K39 (fun _ q => nomatch q)
 have e51 : T21.heap = T21.heap := rfl
 have k2 : own_J p e below T21 m 4 #[.val (.ref a)] [(.ref r33)] B_ := fun t_ hh => k1 t_ (st31 t_ hh)
 obtain ⟨fs, hr, hrun, hended, hW, hsame⟩ := X25.leave (v := some (.ref r33)) (fun h => by rw [Bd.returns] at h; cases h)
 refine ⟨_, _, (own_from hB_ (k2 _ (retOut X25 hx (t := .object "java/util/List") Bd.returns rfl (Or.inr (Or.inr (Or.inr (Or.inr ⟨rfl, rfl, rfl⟩)))) (hb hby own_h432) hr))), hrun, hended, _, _, rfl, ?_, ⟨_, rfl⟩, hW, hsame.mono (own_l rfl) (own_l rfl)⟩
 show Q_rmCo1 Z a ea ke x0 em h0 n0 _ T21.heap _
 rw [e51]
 exact ⟨r33, rfl, N40, P50, F34, F35, F36, F37, H041, trivial⟩
def Q_rmLo2 (Z : State) (ea : Addr) (ke : ClassId) (x0 : Addr) (x1 : Addr) (em : Addr) (h0 : Heap) (n0 : Nat) (v : Option Value) (h : Heap) (L : List Loc) : Prop := ∃ r : Addr, v = some (.ref r) ∧ Fr n0 L ∧ Keep h0 h [] ∧ Exa Z h r "java/util/ImmutableCollections$List12" ∧ Fld Z h r "java/util/ImmutableCollections$List12" "e0" "Ljava/lang/Object;" (.ref x0) ∧ Fld Z h r "java/util/ImmutableCollections$List12" "e1" "Ljava/lang/Object;" (.ref x1) ∧ n0 ≤ r ∧ h0.size ≤ r ∧ True
theorem own_h433 : decode jdk_40_method_47_code 45 = .ok (.new 96, 3) := by decide +kernel
theorem own_h434 : decode jdk_40_method_47_code 48 = .ok (.dup, 1) := by decide +kernel
theorem own_h435 : decode jdk_40_method_47_code 49 = .ok (.aload_n 0, 1) := by decide +kernel
theorem own_h436 : decode jdk_40_method_47_code 50 = .ok (.iconst 0, 1) := by decide +kernel
theorem own_h437 : decode jdk_40_method_47_code 51 = .ok (.aaload, 1) := by decide +kernel
theorem own_h438 : decode jdk_40_method_47_code 52 = .ok (.aload_n 0, 1) := by decide +kernel
theorem own_h439 : decode jdk_40_method_47_code 53 = .ok (.iconst 1, 1) := by decide +kernel
theorem own_h440 : decode jdk_40_method_47_code 54 = .ok (.aaload, 1) := by decide +kernel
theorem own_h441 : decode jdk_40_method_47_code 55 = .ok (.invokespecial 100, 3) := by decide +kernel
theorem own_h442 : parseMethodDescriptor "(Ljava/lang/Object;Ljava/lang/Object;)V" = some ⟨[.object "java/lang/Object", .object "java/lang/Object"], none⟩ := by decide +kernel
theorem own_h443 : decode jdk_40_method_47_code 58 = .ok (.areturn, 1) := by decide +kernel
set_option maxRecDepth 65536 in
set_option maxHeartbeats 40000000 in
theorem rmLo2 (l : Launch) (Z : State) (a0 : Array Value) (hw : ∀ d ∈ tables_1, d.before a0 Z = true) (ws : List Jvm.Cond) (ea : Addr) (ke : ClassId) (x0 : Addr) (x1 : Addr) (em : Addr) (h0 : Heap) (n0 : Nat) (Z0 : n0 ≤ h0.size) (f0_ : Arv Z h0 ea ke (.object "java/lang/Object") (2 : Int32) [(.ref x0), (.ref x1)] .null) (f1_ : Exa Z h0 x0 "java/lang/String") (f2_ : Exa Z h0 x1 "java/lang/String") (f3_ : Old Z n0 h0) (sE : Sta Z Z.heap "java/util/ImmutableCollections" "EMPTY" "Ljava/lang/Object;" (.ref em)) :
    own_Met l (⟨"java/util/List", "of", "([Ljava/lang/Object;)Ljava/util/List;"⟩ : MethodName) jdk_40_method_47_code 2 (some (.object "java/util/List")) ws (rO 5 1 2 63) #[(.ref ea)] Z h0 (Q_rmLo2 Z ea ke x0 x1 em h0 n0) := by
 refine MetFree.of_bodySF (plainFor_of_name own_h402) hisR ?_
 intro p e s m args below meth c s₁ Bd hml0 hP hK
 obtain ⟨rfl, hZ, hh⟩ := hP
 have hx := Bd.exec
 have hby := Bd.bytes
 have hml : c.maxLocals = 2 := hml0
 have hown : s.vm.findClass "java/util/List" = some m.cls := findClass_of_methodNamed Bd.named
 have hnm := (name_of_methodNamed Bd.named Bd.method).1
 have X0 : Stand p l e (rO 5 1 2 63) s m #[(.ref ea)] below meth c s₁ [] 0 0 := Stand.of_body Bd
 have e0 : s₁.heap = h0 := by rw [← hh, Bd.state]; rfl
 have N0 := Fr.nil n0
 obtain ⟨B_, hB_⟩ : ∃ z, z = s₁.setTop (entryFrame m #[(.ref ea)] 2) := ⟨_, rfl⟩
 have k0 : own_K p e below (s₁.setTop (mkF m 0 #[.val (.ref ea), .unset] [])) B_ := by rw [hB_]; exact fun t k => castTop (by clear k; first | (simp [entryFrame, mkF, argsToLocals, Value.category, maxLocals]; done) | rfl) k
 have K0 : Keep h0 h0 [] := Keep.refl _ _
 obtain ⟨cl21, Ar22, -, S23, Ng24, -, -⟩ := id f0_
 have k1 : own_J p e below s₁ m 45 #[.val (.ref ea), .unset] [] B_ := fun t_ hh => k0 t_ (by
  refine XS.aloadN X0.here hx rfl (hb hby own_h403) rfl rfl ?_
  refine X0.arraylength hx (by rw [e0]; exact Ar22.1) (State.isArrayOf_alike hZ.alike Ar22.2.1) (g := (mkF m 1 #[.val (.ref ea), .unset] [(.ref ea)])) rfl rfl (hb hby own_h404) _ ?_
  rw [len_of S23 Ng24]
  refine XS.tswIn X0.here hx rfl (pc0 := 2) (pc' := 45) (o := 43) rfl (hb hby own_h405) rfl (by decide) rfl (by decide) (by decide) ?_
  exact hh)
 obtain ⟨T25, h26, X27, e28, E29, A30, D31, U33, st32⟩ := newO X0 hx hZ hown (wT hw 222 rfl) (wT hw 223 rfl) (wT hw 224 rfl) e0 (g := (mkF m 45 #[.val (.ref ea), .unset] [])) rfl (hb hby own_h433) (by decide) (by decide)
 obtain ⟨a34, g35⟩ : ∃ z, z = h0.size := ⟨_, rfl⟩
 rw [← g35] at A30 D31 U33 st32
 have H036 : h0.size ≤ a34 := Nat.le_trans K0.1 (Nat.le_of_eq g35.symm)
 have G37 : n0 ≤ a34 := Nat.le_trans Z0 (Nat.le_of_eq g35.symm)
 have F38 := f0_.ext E29
 have F39 := Exa.ext (h' := h26) E29 f1_
 have F40 := Exa.ext (h' := h26) E29 f2_
 have Z41 : n0 ≤ h26.size := Nat.le_trans Z0 E29.1
 have O42 := f3_.ext E29
 have P43 : Keep h0 h26 [] := K0.ext E29
 have F44 : Fld Z h26 a34 "java/util/ImmutableCollections$List12" "e0" "Ljava/lang/Object;" .null := D31 (Or.inr (wT hw 247 rfl)) (ty := .object "java/lang/Object") (by decide)
 have F45 : Fld Z h26 a34 "java/util/ImmutableCollections$List12" "e1" "Ljava/lang/Object;" .null := D31 (Or.inr (wT hw 249 rfl)) (ty := .object "java/lang/Object") (by decide)
 have k2 : own_J p e below T25 m 48 #[.val (.ref ea), .unset] [(.ref a34)] B_ := fun t_ hh => k1 t_ (st32 t_ hh)
 obtain ⟨cl46, Ar47, -, S48, Ng49, H50, -⟩ := id F38
 have hin51 : ¬ ((0 : Int32) < 0 ∨ cl46.slots.size ≤ ((0 : Int32)).toNatClampNeg) := inb_of S48 (by decide)
 have hat52 : cl46.slots[((0 : Int32)).toNatClampNeg]? = some (.ref x0) := Has.at H50 hin51 rfl
 obtain ⟨cl53, Ar54, -, S55, Ng56, H57, -⟩ := id F38
 have hin58 : ¬ ((1 : Int32) < 0 ∨ cl53.slots.size ≤ ((1 : Int32)).toNatClampNeg) := inb_of S55 (by decide)
 have hat59 : cl53.slots[((1 : Int32)).toNatClampNeg]? = some (.ref x1) := Has.at H57 hin58 rfl
 have k3 : own_J p e below T25 m 55 #[.val (.ref ea), .unset] [(.ref x1), (.ref x0), (.ref a34), (.ref a34)] B_ := fun t_ hh => k2 t_ (by
  refine XS.dup X27.here hx rfl (hb hby own_h434) rfl rfl ?_
  refine XS.aloadN X27.here hx rfl (hb hby own_h435) rfl rfl ?_
  refine XS.iconst X27.here hx rfl (hb hby own_h436) ?_
  refine X27.aaload hx (j := (0 : Int32)) (v := (.ref x0)) (by rw [e28]; exact Ar47.1) (State.isArrayOf_alike hZ.alike Ar47.2.1) rfl Ar47.2.2 hin51 hat52 (g := (mkF m 51 #[.val (.ref ea), .unset] [(.int (0 : Int32)), (.ref ea), (.ref a34), (.ref a34)])) rfl rfl (hb hby own_h437) _ ?_
  refine XS.aloadN X27.here hx rfl (hb hby own_h438) rfl rfl ?_
  refine XS.iconst X27.here hx rfl (hb hby own_h439) ?_
  refine X27.aaload hx (j := (1 : Int32)) (v := (.ref x1)) (by rw [e28]; exact Ar54.1) (State.isArrayOf_alike hZ.alike Ar54.2.1) rfl Ar54.2.2 hin58 hat59 (g := (mkF m 54 #[.val (.ref ea), .unset] [(.int (1 : Int32)), (.ref ea), (.ref x0), (.ref a34), (.ref a34)])) rfl rfl (hb hby own_h440) _ ?_
  exact hh)
 obtain ⟨_, _, ⟨T60, L61, k_62, n_63⟩, -, X64, ⟨Lc65, hQ66, l_67, y_68, z_69⟩, st70⟩ := X27.specialBack hx (y := (⟨"java/util/ImmutableCollections$List12", "<init>", "(Ljava/lang/Object;Ljava/lang/Object;)V"⟩ : MethodName)) rfl hown (mvT hZ (wT hw 225 rfl)) (mvT hZ (wT hw 226 rfl)) (mvT hZ (wT hw 228 rfl)) (by decide) (backOf (W := 1) (rmL22 l Z a0 hw [] a34 x0 x1 h26 n0 Z41 A30 F44 F45 G37 ) hZ (wT hw 228 rfl) (wT hw 224 rfl) (by decide) (by decide)) (g := (mkF m 55 #[.val (.ref ea), .unset] [(.ref x1), (.ref x0), (.ref a34), (.ref a34)])) rfl (by rw [hml]; rfl) (Steps.refl _) (a := a34) (argsL := [(.ref x0), (.ref x1)]) (rest := [(.ref a34)]) (lenOf own_h442 rfl) rfl (by show 2 * 0 + _ ≤ _; exact Nat.le_of_eq rfl) (hb hby own_h441) (fun _ _ => ⟨rfl, e28, own_l rfl, own_l rfl⟩)
 dsimp only [Pt.U, Pt.locs, Pt.cells, Pt.slots] at X64 l_67 y_68 z_69 st70 hQ66
 subst l_67 y_68 z_69
 obtain ⟨rfl, N71, K75, F72, F73, F74, -⟩ := hQ66
 have N76 := Fr.app N0 N71
 have ne78 : ea ≠ a34 := by rw [g35]; exact Nat.ne_of_lt f0_.lt
 have F77 := F38.keep K75 (ninS ne78 nin0)
 have F79 := F39.keep K75
 have F80 := F40.keep K75
 have F81 := A30.keep K75
 have Z82 : n0 ≤ T60.heap.size := Nat.le_trans Z41 K75.1
 have O83 := O42.keep K75 (allS G37 all0)
 have P84 : Keep h0 T60.heap [] := P43.trans K75 (allS (P := fun x => x ∈ [] ∨ h0.size ≤ x) (Or.inr H036) all0)
 have e85 : T60.heap = T60.heap := rfl
 have k4 : own_J p e below T60 m 58 #[.val (.ref ea), .unset] [(.ref a34)] B_ := fun t_ hh => k3 t_ (st70.trans hh)
 obtain ⟨fs, hr, hrun, hended, hW, hsame⟩ := X64.leave (v := some (.ref a34)) (fun h => by rw [Bd.returns] at h; cases h)
 refine ⟨_, _, (own_from hB_ (k4 _ (retOut X64 hx (t := .object "java/util/List") Bd.returns rfl (Or.inr (Or.inr (Or.inr (Or.inr ⟨rfl, rfl, rfl⟩)))) (hb hby own_h443) hr))), hrun, hended, _, _, rfl, ?_, ⟨_, rfl⟩, hW, hsame.mono (own_l rfl) (own_l rfl)⟩
 show Q_rmLo2 Z ea ke x0 x1 em h0 n0 _ T60.heap _
 rw [e85]
 exact ⟨a34, rfl, N76, P84, F72, F73, F74, G37, H036, trivial⟩
def Q_rmLc2 (Z : State) (a : Addr) (ea : Addr) (ke : ClassId) (x0 : Addr) (x1 : Addr) (em : Addr) (h0 : Heap) (n0 : Nat) (v : Option Value) (h : Heap) (L : List Loc) : Prop := ∃ r : Addr, v = some (.ref r) ∧ Fr n0 L ∧ Keep h0 h [] ∧ Exa Z h r "java/util/ImmutableCollections$List12" ∧ Fld Z h r "java/util/ImmutableCollections$List12" "e0" "Ljava/lang/Object;" (.ref x0) ∧ Fld Z h r "java/util/ImmutableCollections$List12" "e1" "Ljava/lang/Object;" (.ref x1) ∧ n0 ≤ r ∧ h0.size ≤ r ∧ True
set_option maxRecDepth 65536 in
set_option maxHeartbeats 40000000 in
theorem rmLc2 (l : Launch) (Z : State) (a0 : Array Value) (hw : ∀ d ∈ tables_1, d.before a0 Z = true) (ws : List Jvm.Cond) (a : Addr) (ea : Addr) (ke : ClassId) (x0 : Addr) (x1 : Addr) (em : Addr) (h0 : Heap) (n0 : Nat) (Z0 : n0 ≤ h0.size) (f0_ : Exa Z h0 a "java/util/ArrayList") (f1_ : Fld Z h0 a "java/util/ArrayList" "elementData" "[Ljava/lang/Object;" (.ref ea)) (f2_ : Fld Z h0 a "java/util/ArrayList" "size" "I" (.int (2 : Int32))) (f3_ : Exa Z h0 ea "[Ljava/lang/Object;") (f4_ : Arv Z h0 ea ke (.object "java/lang/Object") (10 : Int32) [(.ref x0), (.ref x1), .null, .null, .null, .null, .null, .null, .null, .null] .null) (f5_ : Exa Z h0 x0 "java/lang/String") (f6_ : Exa Z h0 x1 "java/lang/String") (f7_ : Old Z n0 h0) (sE : Sta Z Z.heap "java/util/ImmutableCollections" "EMPTY" "Ljava/lang/Object;" (.ref em)) (mr : Addr) (hM : own_Mir Z "[Ljava/lang/Object;" mr) :
    own_Met l (⟨"java/util/ImmutableCollections", "listCopy", "(Ljava/util/Collection;)Ljava/util/List;"⟩ : MethodName) jdk_56_method_3_code 2 (some (.object "java/util/List")) ws (rO 6 2 4 80) #[(.ref a)] Z h0 (Q_rmLc2 Z a ea ke x0 x1 em h0 n0) := by
 refine MetFree.of_bodySF (plainFor_of_name own_h375) hisR ?_
 intro p e s m args below meth c s₁ Bd hml0 hP hK
 obtain ⟨rfl, hZ, hh⟩ := hP
 have hx := Bd.exec
 have hby := Bd.bytes
 have hml : c.maxLocals = 2 := hml0
 have hown : s.vm.findClass "java/util/ImmutableCollections" = some m.cls := findClass_of_methodNamed Bd.named
 have hnm := (name_of_methodNamed Bd.named Bd.method).1
 have X0 : Stand p l e (rO 6 2 4 80) s m #[(.ref a)] below meth c s₁ [] 0 0 := Stand.of_body Bd
 have e0 : s₁.heap = h0 := by rw [← hh, Bd.state]; rfl
 have N0 := Fr.nil n0
 obtain ⟨B_, hB_⟩ : ∃ z, z = s₁.setTop (entryFrame m #[(.ref a)] 2) := ⟨_, rfl⟩
 have k0 : own_K p e below (s₁.setTop (mkF m 0 #[.val (.ref a), .unset] [])) B_ := by rw [hB_]; exact fun t k => castTop (by clear k; first | (simp [entryFrame, mkF, argsToLocals, Value.category, maxLocals]; done) | rfl) k
 have K0 : Keep h0 h0 [] := Keep.refl _ _
 have k1 : own_J p e below s₁ m 1 #[.val (.ref a), .unset] [(.ref a)] B_ := fun t_ hh => k0 t_ (by
  refine XS.aloadN X0.here hx rfl (hb hby own_h414) rfl rfl ?_
  exact hh)
 obtain ⟨T21, X22, e23, st24⟩ := instNo X0 hx hZ hown (wT hw 174 rfl) e0 f0_ (own_NSno (wT hw 175 rfl) (wT hw 223 rfl) (NS.step (wT hw 175 rfl) (NS.step (wT hw 176 rfl) (NS.step (wT hw 177 rfl) (own_NSroot (wT hw 178 rfl) (wT hw 223 rfl) (by decide)) (by decide)) (by decide)) (by decide)) (by decide)) (g := (mkF m 1 #[.val (.ref a), .unset] [(.ref a)])) rfl rfl (hb hby own_h415)
 have k2 : own_J p e below T21 m 4 #[.val (.ref a), .unset] [(.int (0 : Int32))] B_ := fun t_ hh => k1 t_ (st24 t_ hh)
 have k3 : own_J p e below T21 m 8 #[.val (.ref a), .unset] [(.ref a)] B_ := fun t_ hh => k2 t_ (by
  refine XS.ifNo X22.here hx rfl (hb hby own_h416) rfl (by decide) ?_
  refine XS.aloadN X22.here hx rfl (hb hby own_h417) rfl rfl ?_
  exact hh)
 obtain ⟨T25, X26, e27, st28⟩ := instNo X22 hx hZ hown (wT hw 179 rfl) e23 f0_ (own_NSno (wT hw 175 rfl) (wT hw 276 rfl) (NS.step (wT hw 175 rfl) (NS.step (wT hw 176 rfl) (NS.step (wT hw 177 rfl) (own_NSroot (wT hw 178 rfl) (wT hw 276 rfl) (by decide)) (by decide)) (by decide)) (by decide)) (by decide)) (g := (mkF m 8 #[.val (.ref a), .unset] [(.ref a)])) rfl rfl (hb hby own_h418)
 have k4 : own_J p e below T25 m 11 #[.val (.ref a), .unset] [(.int (0 : Int32))] B_ := fun t_ hh => k3 t_ (st28 t_ hh)
 have k5 : own_J p e below T25 m 32 #[.val (.ref a), .unset] [(.ref a)] B_ := fun t_ hh => k4 t_ (by
  refine XS.ifYes X26.here hx rfl (pc0 := 11) (pc' := 31) rfl (hb hby own_h419) rfl (by decide) (by decide) (by decide) ?_
  refine XS.aloadN X26.here hx rfl (hb hby own_h420) rfl rfl ?_
  exact hh)
 obtain ⟨cq40, kq41, qa42, qb43, qc44⟩ := isOf hZ e27 f0_
 obtain ⟨_, _, ⟨T29, L30, k_31, n_32⟩, -, X33, ⟨Lc34, hQ35, l_36, y_37, z_38⟩, st39⟩ := X26.interfaceBack hx (xi := (⟨"java/util/Collection", "isEmpty", "()Z"⟩ : MethodName)) (y := (⟨"java/util/ArrayList", "isEmpty", "()Z"⟩ : MethodName)) hown (mvT hZ (wT hw 180 rfl)) (mvT hZ (wT hw 181 rfl)) (mvT hZ (wT hw 182 rfl)) (mvT hZ (wT hw 183 rfl)) (mvT hZ (wT hw 184 rfl)) (mvT hZ (wT hw 185 rfl)) (mvT hZ (wT hw 186 rfl)) (mvT hZ (wT hw 187 rfl)) (by decide) (backOf (W := 0) (rmIe l Z a0 hw [] a (2 : Int32) h0 n0 Z0 f2_ (by decide) ) hZ (wT hw 188 rfl) (wT hw 29 rfl) (by decide) (by decide)) qa42 qb43 qc44 (g := (mkF m 32 #[.val (.ref a), .unset] [(.ref a)])) rfl (by rw [hml]; rfl) (Steps.refl _) (argsL := []) (rest := []) (lenOf own_h422 rfl) rfl (by show 2 * 0 + _ ≤ _; exact Nat.le_of_eq rfl) (hb hby own_h421) (fun _ _ => ⟨rfl, e27, own_l rfl, own_l rfl⟩)
 dsimp only [Pt.U, Pt.locs, Pt.cells, Pt.slots] at X33 l_36 y_37 z_38 st39 hQ35
 subst l_36 y_37 z_38
 obtain ⟨rfl, N45, e46⟩ := hQ35
 have N47 := Fr.app N0 N45
 have k6 : own_J p e below T29 m 37 #[.val (.ref a), .unset] [(.int (0 : Int32))] B_ := fun t_ hh => k5 t_ (st39.trans hh)
 have k7 : own_J p e below T29 m 45 #[.val (.ref a), .unset] [(.ref a)] B_ := fun t_ hh => k6 t_ (by
  refine XS.ifYes X33.here hx rfl (pc0 := 37) (pc' := 44) rfl (hb hby own_h423) rfl (by decide) (by decide) (by decide) ?_
  refine XS.aloadN X33.here hx rfl (hb hby own_h424) rfl rfl ?_
  exact hh)
 obtain ⟨cq59, kq60, qa61, qb62, qc63⟩ := isOf hZ e46 f0_
 obtain ⟨_, _, ⟨T48, L49, k_50, n_51⟩, -, X52, ⟨Lc53, hQ54, l_55, y_56, z_57⟩, st58⟩ := X33.interfaceBack hx (xi := (⟨"java/util/Collection", "toArray", "()[Ljava/lang/Object;"⟩ : MethodName)) (y := (⟨"java/util/ArrayList", "toArray", "()[Ljava/lang/Object;"⟩ : MethodName)) hown (mvT hZ (wT hw 189 rfl)) (mvT hZ (wT hw 190 rfl)) (mvT hZ (wT hw 191 rfl)) (mvT hZ (wT hw 192 rfl)) (mvT hZ (wT hw 193 rfl)) (mvT hZ (wT hw 194 rfl)) (mvT hZ (wT hw 195 rfl)) (mvT hZ (wT hw 187 rfl)) (by decide) (backOf (W := 0) (rmTa2 l Z a0 hw [] a ea ke x0 x1 h0 n0 Z0 f1_ f2_ f3_ f4_ f5_ f6_ mr hM) hZ (wT hw 196 rfl) (wT hw 29 rfl) (by decide) (by decide)) qa61 qb62 qc63 (g := (mkF m 45 #[.val (.ref a), .unset] [(.ref a)])) rfl (by rw [hml]; rfl) (Steps.refl _) (argsL := []) (rest := []) (lenOf own_h233 rfl) rfl (by show 2 * 0 + _ ≤ _; exact Nat.le_of_eq rfl) (hb hby own_h425) (fun _ _ => ⟨rfl, e46, own_l rfl, own_l rfl⟩)
 dsimp only [Pt.U, Pt.locs, Pt.cells, Pt.slots] at X52 l_55 y_56 z_57 st58 hQ54
 subst l_55 y_56 z_57
 obtain ⟨r65, kr66, rfl, N64, K71, F67, F68, F69, F70, -⟩ := hQ54
 have N72 := Fr.app N47 N64
 have H073 : h0.size ≤ r65 := Nat.le_trans K0.1 F70
 have F74 := f0_.keep K71
 have F75 := f1_.keep K71 nin0
 have F76 := f2_.keep K71 nin0
 have F77 := f3_.keep K71
 have F78 := f4_.keep K71 nin0
 have F79 := f5_.keep K71
 have F80 := f6_.keep K71
 have Z81 : n0 ≤ T48.heap.size := Nat.le_trans Z0 K71.1
 have O82 := f7_.keep K71 all0
 have P83 : Keep h0 T48.heap [] := K0.trans K71 (fun _ q => nomatch q)
 have e84 : T48.heap = T48.heap := rfl
 have k8 : own_J p e below T48 m 50 #[.val (.ref a), .unset] [(.ref r65)] B_ := fun t_ hh => k7 t_ (st58.trans hh)
 obtain ⟨_, _, ⟨T85, L86, k_87, n_88⟩, -, X89, ⟨Lc90, hQ91, l_92, y_93, z_94⟩, st95⟩ := Jvm.LawKit.callS X52 hx (y := (⟨"java/util/List", "of", "([Ljava/lang/Object;)Ljava/util/List;"⟩ : MethodName)) hown (mvT hZ (wT hw 219 rfl)) (mvT hZ (wT hw 220 rfl)) (mvT hZ (wT hw 168 rfl)) (mvT hZ (wT hw 221 rfl)) (by decide) (backOf (W := 0) (rmLo2 l Z a0 hw [] r65 kr66 x0 x1 em T48.heap n0 Z81 F67 F79 F80 O82 sE) hZ (wT hw 221 rfl) (wT hw 168 rfl) (by decide) (by decide)) (g := (mkF m 50 #[.val (.ref a), .unset] [(.ref r65)])) rfl (by rw [hml]; rfl) (argsL := [(.ref r65)]) (rest := []) (lenOf own_h427 rfl) rfl (by show 2 * 0 + _ ≤ _; exact Nat.le_of_eq rfl) (hb hby own_h426) (fun _ _ => ⟨rfl, e84, own_l rfl, own_l rfl⟩)
 dsimp only [Pt.U, Pt.locs, Pt.cells, Pt.slots] at X89 l_92 y_93 z_94 st95 hQ91
 subst l_92 y_93 z_94
 obtain ⟨r97, rfl, N96, K103, F98, F99, F100, F101, F102, -⟩ := hQ91
 have N104 := Fr.app N72 N96
 have H0105 : h0.size ≤ r97 := Nat.le_trans P83.1 F102
 have F106 := F74.keep K103
 have F107 := F75.keep K103 nin0
 have F108 := F76.keep K103 nin0
 have F109 := F77.keep K103
 have F110 := F78.keep K103 nin0
 have F111 := F79.keep K103
 have F112 := F80.keep K103
 have F113 := F67.keep K103 nin0
 have Z114 : n0 ≤ T85.heap.size := Nat.le_trans Z81 K103.1
 have O115 := O82.keep K103 all0
 have P116 : Keep h0 T85.heap [] := P83.trans K103 (fun _ q => nomatch q)
 have e117 : T85.heap = T85.heap := rfl
 have k9 : own_J p e below T85 m 53 #[.val (.ref a), .unset] [(.ref r97)] B_ := fun t_ hh => k8 t_ (st95 t_ hh)
 obtain ⟨fs, hr, hrun, hended, hW, hsame⟩ := X89.leave (v := some (.ref r97)) (fun h => by rw [Bd.returns] at h; cases h)
 refine ⟨_, _, (own_from hB_ (k9 _ (retOut X89 hx (t := .object "java/util/List") Bd.returns rfl (Or.inr (Or.inr (Or.inr (Or.inr ⟨rfl, rfl, rfl⟩)))) (hb hby own_h428) hr))), hrun, hended, _, _, rfl, ?_, ⟨_, rfl⟩, hW, hsame.mono (own_l rfl) (own_l rfl)⟩
 show Q_rmLc2 Z a ea ke x0 x1 em h0 n0 _ T85.heap _
 rw [e117]
 exact ⟨r97, rfl, N104, P116, F98, F99, F100, F101, H0105, trivial⟩
def Q_rmCo2 (Z : State) (a : Addr) (ea : Addr) (ke : ClassId) (x0 : Addr) (x1 : Addr) (em : Addr) (h0 : Heap) (n0 : Nat) (v : Option Value) (h : Heap) (L : List Loc) : Prop := ∃ r : Addr, v = some (.ref r) ∧ Fr n0 L ∧ Keep h0 h [] ∧ Exa Z h r "java/util/ImmutableCollections$List12" ∧ Fld Z h r "java/util/ImmutableCollections$List12" "e0" "Ljava/lang/Object;" (.ref x0) ∧ Fld Z h r "java/util/ImmutableCollections$List12" "e1" "Ljava/lang/Object;" (.ref x1) ∧ n0 ≤ r ∧ h0.size ≤ r ∧ True
set_option maxRecDepth 65536 in
set_option maxHeartbeats 40000000 in
theorem rmCo2 (l : Launch) (Z : State) (a0 : Array Value) (hw : ∀ d ∈ tables_1, d.before a0 Z = true) (ws : List Jvm.Cond) (a : Addr) (ea : Addr) (ke : ClassId) (x0 : Addr) (x1 : Addr) (em : Addr) (h0 : Heap) (n0 : Nat) (Z0 : n0 ≤ h0.size) (f0_ : Exa Z h0 a "java/util/ArrayList") (f1_ : Fld Z h0 a "java/util/ArrayList" "elementData" "[Ljava/lang/Object;" (.ref ea)) (f2_ : Fld Z h0 a "java/util/ArrayList" "size" "I" (.int (2 : Int32))) (f3_ : Exa Z h0 ea "[Ljava/lang/Object;") (f4_ : Arv Z h0 ea ke (.object "java/lang/Object") (10 : Int32) [(.ref x0), (.ref x1), .null, .null, .null, .null, .null, .null, .null, .null] .null) (f5_ : Exa Z h0 x0 "java/lang/String") (f6_ : Exa Z h0 x1 "java/lang/String") (f7_ : Old Z n0 h0) (sE : Sta Z Z.heap "java/util/ImmutableCollections" "EMPTY" "Ljava/lang/Object;" (.ref em)) (mr : Addr) (hM : own_Mir Z "[Ljava/lang/Object;" mr) :
    own_Met l (⟨"java/util/List", "copyOf", "(Ljava/util/Collection;)Ljava/util/List;"⟩ : MethodName) jdk_40_method_48_code 1 (some (.object "java/util/List")) ws (rO 7 2 4 93) #[(.ref a)] Z h0 (Q_rmCo2 Z a ea ke x0 x1 em h0 n0) := by
 refine MetFree.of_bodySF (plainFor_of_name own_h402) hisR ?_
 intro p e s m args below meth c s₁ Bd hml0 hP hK
 obtain ⟨rfl, hZ, hh⟩ := hP
 have hx := Bd.exec
 have hby := Bd.bytes
 have hml : c.maxLocals = 1 := hml0
 have hown : s.vm.findClass "java/util/List" = some m.cls := findClass_of_methodNamed Bd.named
 have hnm := (name_of_methodNamed Bd.named Bd.method).1
 have X0 : Stand p l e (rO 7 2 4 93) s m #[(.ref a)] below meth c s₁ [] 0 0 := Stand.of_body Bd
 have e0 : s₁.heap = h0 := by rw [← hh, Bd.state]; rfl
 have N0 := Fr.nil n0
 obtain ⟨B_, hB_⟩ : ∃ z, z = s₁.setTop (entryFrame m #[(.ref a)] 1) := ⟨_, rfl⟩
 have k0 : own_K p e below (s₁.setTop (mkF m 0 #[.val (.ref a)] [])) B_ := by rw [hB_]; exact fun t k => castTop (by clear k; first | (simp [entryFrame, mkF, argsToLocals, Value.category, maxLocals]; done) | rfl) k
 have K0 : Keep h0 h0 [] := Keep.refl _ _
 have k1 : own_J p e below s₁ m 1 #[.val (.ref a)] [(.ref a)] B_ := fun t_ hh => k0 t_ (by
  refine XS.aloadN X0.here hx rfl (hb hby own_h429) rfl rfl ?_
  exact hh)
 obtain ⟨_, _, ⟨T21, L22, k_23, n_24⟩, -, X25, ⟨Lc26, hQ27, l_28, y_29, z_30⟩, st31⟩ := Jvm.LawKit.callS X0 hx (y := (⟨"java/util/ImmutableCollections", "listCopy", "(Ljava/util/Collection;)Ljava/util/List;"⟩ : MethodName)) hown (mvT hZ (wT hw 170 rfl)) (mvT hZ (wT hw 171 rfl)) (mvT hZ (wT hw 172 rfl)) (mvT hZ (wT hw 173 rfl)) (by decide) (backOf (W := 0) (rmLc2 l Z a0 hw [] a ea ke x0 x1 em h0 n0 Z0 f0_ f1_ f2_ f3_ f4_ f5_ f6_ f7_ sE mr hM) hZ (wT hw 173 rfl) (wT hw 172 rfl) (by decide) (by decide)) (g := (mkF m 1 #[.val (.ref a)] [(.ref a)])) rfl (by rw [hml]; rfl) (argsL := [(.ref a)]) (rest := []) (lenOf own_h431 rfl) rfl (by show 2 * 0 + _ ≤ _; exact Nat.le_of_eq rfl) (hb hby own_h430) (fun _ _ => ⟨rfl, e0, own_l rfl, own_l rfl⟩)
 dsimp only [Pt.U, Pt.locs, Pt.cells, Pt.slots] at X25 l_28 y_29 z_30 st31 hQ27
 subst l_28 y_29 z_30
 obtain ⟨r33, rfl, N32, K39, F34, F35, F36, F37, F38, -⟩ := hQ27
 have N40 := Fr.app N0 N32
 have H041 : h0.size ≤ r33 := Nat.le_trans K0.1 F38
 have F42 := f0_.keep K39
 have F43 := f1_.keep K39 nin0
 have F44 := f2_.keep K39 nin0
 have F45 := f3_.keep K39
 have F46 := f4_.keep K39 nin0
 have F47 := f5_.keep K39
 have F48 := f6_.keep K39
 have Z49 : n0 ≤ T21.heap.size := Nat.le_trans Z0 K39.1
 have O50 := f7_.keep K39 all0
 have P51 : Keep h0 T21.heap [] := K0.trans K39 (fun _ q => nomatch q)
 have e52 : T21.heap = T21.heap := rfl
 have k2 : own_J p e below T21 m 4 #[.val (.ref a)] [(.ref r33)] B_ := fun t_ hh => k1 t_ (st31 t_ hh)
 obtain ⟨fs, hr, hrun, hended, hW, hsame⟩ := X25.leave (v := some (.ref r33)) (fun h => by rw [Bd.returns] at h; cases h)
 refine ⟨_, _, (own_from hB_ (k2 _ (retOut X25 hx (t := .object "java/util/List") Bd.returns rfl (Or.inr (Or.inr (Or.inr (Or.inr ⟨rfl, rfl, rfl⟩)))) (hb hby own_h432) hr))), hrun, hended, _, _, rfl, ?_, ⟨_, rfl⟩, hW, hsame.mono (own_l rfl) (own_l rfl)⟩
 show Q_rmCo2 Z a ea ke x0 x1 em h0 n0 _ T21.heap _
 rw [e52]
 exact ⟨r33, rfl, N40, P51, F34, F35, F36, F37, H041, trivial⟩
def Q_rmLo3 (Z : State) (ea : Addr) (ke : ClassId) (x0 : Addr) (x1 : Addr) (x2 : Addr) (em : Addr) (h0 : Heap) (n0 : Nat) (v : Option Value) (h : Heap) (L : List Loc) : Prop := ∃ r : Addr, ∃ q : Addr, ∃ kq : ClassId, v = some (.ref r) ∧ Fr n0 L ∧ Keep h0 h [] ∧ Exa Z h r "java/util/ImmutableCollections$ListN" ∧ Fld Z h r "java/util/ImmutableCollections$ListN" "elements" "[Ljava/lang/Object;" (.ref q) ∧ Arv Z h q kq (.object "java/lang/Object") (3 : Int32) [(.ref x0), (.ref x1), (.ref x2)] .null ∧ n0 ≤ r ∧ h0.size ≤ r ∧ h0.size ≤ q ∧ n0 ≤ q ∧ q ≠ r ∧ True
theorem own_h444 : decode jdk_40_method_47_code 59 = .ok (.aload_n 0, 1) := by decide +kernel
theorem own_h445 : decode jdk_40_method_47_code 60 = .ok (.invokestatic 109, 3) := by decide +kernel
theorem own_h446 : decode jdk_40_method_47_code 63 = .ok (.areturn, 1) := by decide +kernel
set_option maxRecDepth 65536 in
set_option maxHeartbeats 40000000 in
theorem rmLo3 (l : Launch) (Z : State) (a0 : Array Value) (hw : ∀ d ∈ tables_1, d.before a0 Z = true) (ws : List Jvm.Cond) (ea : Addr) (ke : ClassId) (x0 : Addr) (x1 : Addr) (x2 : Addr) (em : Addr) (h0 : Heap) (n0 : Nat) (Z0 : n0 ≤ h0.size) (f0_ : Arv Z h0 ea ke (.object "java/lang/Object") (3 : Int32) [(.ref x0), (.ref x1), (.ref x2)] .null) (f1_ : Exa Z h0 x0 "java/lang/String") (f2_ : Exa Z h0 x1 "java/lang/String") (f3_ : Exa Z h0 x2 "java/lang/String") (f4_ : Old Z n0 h0) (sE : Sta Z Z.heap "java/util/ImmutableCollections" "EMPTY" "Ljava/lang/Object;" (.ref em)) :
    own_Met l (⟨"java/util/List", "of", "([Ljava/lang/Object;)Ljava/util/List;"⟩ : MethodName) jdk_40_method_47_code 2 (some (.object "java/util/List")) ws (rO 6 2 5 77) #[(.ref ea)] Z h0 (Q_rmLo3 Z ea ke x0 x1 x2 em h0 n0) := by
 refine MetFree.of_bodySF (plainFor_of_name own_h402) hisR ?_
 intro p e s m args below meth c s₁ Bd hml0 hP hK
 obtain ⟨rfl, hZ, hh⟩ := hP
 have hx := Bd.exec
 have hby := Bd.bytes
 have hml : c.maxLocals = 2 := hml0
 have hown : s.vm.findClass "java/util/List" = some m.cls := findClass_of_methodNamed Bd.named
 have hnm := (name_of_methodNamed Bd.named Bd.method).1
 have X0 : Stand p l e (rO 6 2 5 77) s m #[(.ref ea)] below meth c s₁ [] 0 0 := Stand.of_body Bd
 have e0 : s₁.heap = h0 := by rw [← hh, Bd.state]; rfl
 have N0 := Fr.nil n0
 obtain ⟨B_, hB_⟩ : ∃ z, z = s₁.setTop (entryFrame m #[(.ref ea)] 2) := ⟨_, rfl⟩
 have k0 : own_K p e below (s₁.setTop (mkF m 0 #[.val (.ref ea), .unset] [])) B_ := by rw [hB_]; exact fun t k => castTop (by clear k; first | (simp [entryFrame, mkF, argsToLocals, Value.category, maxLocals]; done) | rfl) k
 have K0 : Keep h0 h0 [] := Keep.refl _ _
 obtain ⟨cl21, Ar22, -, S23, Ng24, -, -⟩ := id f0_
 have k1 : own_J p e below s₁ m 60 #[.val (.ref ea), .unset] [(.ref ea)] B_ := fun t_ hh => k0 t_ (by
  refine XS.aloadN X0.here hx rfl (hb hby own_h403) rfl rfl ?_
  refine X0.arraylength hx (by rw [e0]; exact Ar22.1) (State.isArrayOf_alike hZ.alike Ar22.2.1) (g := (mkF m 1 #[.val (.ref ea), .unset] [(.ref ea)])) rfl rfl (hb hby own_h404) _ ?_
  rw [len_of S23 Ng24]
  refine XS.tswOut X0.here hx rfl (pc0 := 2) (pc' := 59) rfl (hb hby own_h405) rfl (by decide) (by decide) (by decide) ?_
  refine XS.aloadN X0.here hx rfl (hb hby own_h444) rfl rfl ?_
  exact hh)
 obtain ⟨_, _, ⟨T25, L26, k_27, n_28⟩, -, X29, ⟨Lc30, hQ31, l_32, y_33, z_34⟩, st35⟩ := Jvm.LawKit.callS X0 hx (y := (⟨"java/util/ImmutableCollections", "listFromArray", "([Ljava/lang/Object;)Ljava/util/List;"⟩ : MethodName)) hown (mvT hZ (wT hw 271 rfl)) (mvT hZ (wT hw 272 rfl)) (mvT hZ (wT hw 172 rfl)) (mvT hZ (wT hw 273 rfl)) (by decide) (backOf (W := 0) (rmLf l Z a0 hw [] ea ke x0 x1 x2 h0 n0 Z0 f0_ f1_ f2_ f3_ ) hZ (wT hw 273 rfl) (wT hw 172 rfl) (by decide) (by decide)) (g := (mkF m 60 #[.val (.ref ea), .unset] [(.ref ea)])) rfl (by rw [hml]; rfl) (argsL := [(.ref ea)]) (rest := []) (lenOf own_h427 rfl) rfl (by show 2 * 0 + _ ≤ _; exact Nat.le_of_eq rfl) (hb hby own_h445) (fun _ _ => ⟨rfl, e0, own_l rfl, own_l rfl⟩)
 dsimp only [Pt.U, Pt.locs, Pt.cells, Pt.slots] at X29 l_32 y_33 z_34 st35 hQ31
 subst l_32 y_33 z_34
 obtain ⟨r37, q38, kq39, rfl, N36, K48, F40, F41, F42, F43, F44, F45, F46, F47, -⟩ := hQ31
 have N49 := Fr.app N0 N36
 have H050 : h0.size ≤ r37 := Nat.le_trans K0.1 F44
 have H051 : h0.size ≤ q38 := Nat.le_trans K0.1 F45
 have F52 := f0_.keep K48 nin0
 have F53 := f1_.keep K48
 have F54 := f2_.keep K48
 have F55 := f3_.keep K48
 have Z56 : n0 ≤ T25.heap.size := Nat.le_trans Z0 K48.1
 have O57 := f4_.keep K48 all0
 have P58 : Keep h0 T25.heap [] := K0.trans K48 (fun _ q => nomatch q)
 have e59 : T25.heap = T25.heap := rfl
 have k2 : own_J p e below T25 m 63 #[.val (.ref ea), .unset] [(.ref r37)] B_ := fun t_ hh => k1 t_ (st35 t_ hh)
 obtain ⟨fs, hr, hrun, hended, hW, hsame⟩ := X29.leave (v := some (.ref r37)) (fun h => by rw [Bd.returns] at h; cases h)
 refine ⟨_, _, (own_from hB_ (k2 _ (retOut X29 hx (t := .object "java/util/List") Bd.returns rfl (Or.inr (Or.inr (Or.inr (Or.inr ⟨rfl, rfl, rfl⟩)))) (hb hby own_h446) hr))), hrun, hended, _, _, rfl, ?_, ⟨_, rfl⟩, hW, hsame.mono (own_l rfl) (own_l rfl)⟩
 show Q_rmLo3 Z ea ke x0 x1 x2 em h0 n0 _ T25.heap _
 rw [e59]
 exact ⟨r37, q38, kq39, rfl, N49, P58, F40, F41, F42, F43, H050, H051, F46, F47, trivial⟩
def Q_rmLc3 (Z : State) (a : Addr) (ea : Addr) (ke : ClassId) (x0 : Addr) (x1 : Addr) (x2 : Addr) (em : Addr) (h0 : Heap) (n0 : Nat) (v : Option Value) (h : Heap) (L : List Loc) : Prop := ∃ r : Addr, ∃ q : Addr, ∃ kq : ClassId, v = some (.ref r) ∧ Fr n0 L ∧ Keep h0 h [] ∧ Exa Z h r "java/util/ImmutableCollections$ListN" ∧ Fld Z h r "java/util/ImmutableCollections$ListN" "elements" "[Ljava/lang/Object;" (.ref q) ∧ Arv Z h q kq (.object "java/lang/Object") (3 : Int32) [(.ref x0), (.ref x1), (.ref x2)] .null ∧ n0 ≤ r ∧ h0.size ≤ r ∧ h0.size ≤ q ∧ n0 ≤ q ∧ q ≠ r ∧ True
set_option maxRecDepth 65536 in
set_option maxHeartbeats 40000000 in
theorem rmLc3 (l : Launch) (Z : State) (a0 : Array Value) (hw : ∀ d ∈ tables_1, d.before a0 Z = true) (ws : List Jvm.Cond) (a : Addr) (ea : Addr) (ke : ClassId) (x0 : Addr) (x1 : Addr) (x2 : Addr) (em : Addr) (h0 : Heap) (n0 : Nat) (Z0 : n0 ≤ h0.size) (f0_ : Exa Z h0 a "java/util/ArrayList") (f1_ : Fld Z h0 a "java/util/ArrayList" "elementData" "[Ljava/lang/Object;" (.ref ea)) (f2_ : Fld Z h0 a "java/util/ArrayList" "size" "I" (.int (3 : Int32))) (f3_ : Exa Z h0 ea "[Ljava/lang/Object;") (f4_ : Arv Z h0 ea ke (.object "java/lang/Object") (10 : Int32) [(.ref x0), (.ref x1), (.ref x2), .null, .null, .null, .null, .null, .null, .null] .null) (f5_ : Exa Z h0 x0 "java/lang/String") (f6_ : Exa Z h0 x1 "java/lang/String") (f7_ : Exa Z h0 x2 "java/lang/String") (f8_ : Old Z n0 h0) (sE : Sta Z Z.heap "java/util/ImmutableCollections" "EMPTY" "Ljava/lang/Object;" (.ref em)) (mr : Addr) (hM : own_Mir Z "[Ljava/lang/Object;" mr) :
    own_Met l (⟨"java/util/ImmutableCollections", "listCopy", "(Ljava/util/Collection;)Ljava/util/List;"⟩ : MethodName) jdk_56_method_3_code 2 (some (.object "java/util/List")) ws (rO 7 3 8 90) #[(.ref a)] Z h0 (Q_rmLc3 Z a ea ke x0 x1 x2 em h0 n0) := by
 refine MetFree.of_bodySF (plainFor_of_name own_h375) hisR ?_
 intro p e s m args below meth c s₁ Bd hml0 hP hK
 obtain ⟨rfl, hZ, hh⟩ := hP
 have hx := Bd.exec
 have hby := Bd.bytes
 have hml : c.maxLocals = 2 := hml0
 have hown : s.vm.findClass "java/util/ImmutableCollections" = some m.cls := findClass_of_methodNamed Bd.named
 have hnm := (name_of_methodNamed Bd.named Bd.method).1
 have X0 : Stand p l e (rO 7 3 8 90) s m #[(.ref a)] below meth c s₁ [] 0 0 := Stand.of_body Bd
 have e0 : s₁.heap = h0 := by rw [← hh, Bd.state]; rfl
 have N0 := Fr.nil n0
 obtain ⟨B_, hB_⟩ : ∃ z, z = s₁.setTop (entryFrame m #[(.ref a)] 2) := ⟨_, rfl⟩
 have k0 : own_K p e below (s₁.setTop (mkF m 0 #[.val (.ref a), .unset] [])) B_ := by rw [hB_]; exact fun t k => castTop (by clear k; first | (simp [entryFrame, mkF, argsToLocals, Value.category, maxLocals]; done) | rfl) k
 have K0 : Keep h0 h0 [] := Keep.refl _ _
 have k1 : own_J p e below s₁ m 1 #[.val (.ref a), .unset] [(.ref a)] B_ := fun t_ hh => k0 t_ (by
  refine XS.aloadN X0.here hx rfl (hb hby own_h414) rfl rfl ?_
  exact hh)
 obtain ⟨T21, X22, e23, st24⟩ := instNo X0 hx hZ hown (wT hw 174 rfl) e0 f0_ (own_NSno (wT hw 175 rfl) (wT hw 223 rfl) (NS.step (wT hw 175 rfl) (NS.step (wT hw 176 rfl) (NS.step (wT hw 177 rfl) (own_NSroot (wT hw 178 rfl) (wT hw 223 rfl) (by decide)) (by decide)) (by decide)) (by decide)) (by decide)) (g := (mkF m 1 #[.val (.ref a), .unset] [(.ref a)])) rfl rfl (hb hby own_h415)
 have k2 : own_J p e below T21 m 4 #[.val (.ref a), .unset] [(.int (0 : Int32))] B_ := fun t_ hh => k1 t_ (st24 t_ hh)
 have k3 : own_J p e below T21 m 8 #[.val (.ref a), .unset] [(.ref a)] B_ := fun t_ hh => k2 t_ (by
  refine XS.ifNo X22.here hx rfl (hb hby own_h416) rfl (by decide) ?_
  refine XS.aloadN X22.here hx rfl (hb hby own_h417) rfl rfl ?_
  exact hh)
 obtain ⟨T25, X26, e27, st28⟩ := instNo X22 hx hZ hown (wT hw 179 rfl) e23 f0_ (own_NSno (wT hw 175 rfl) (wT hw 276 rfl) (NS.step (wT hw 175 rfl) (NS.step (wT hw 176 rfl) (NS.step (wT hw 177 rfl) (own_NSroot (wT hw 178 rfl) (wT hw 276 rfl) (by decide)) (by decide)) (by decide)) (by decide)) (by decide)) (g := (mkF m 8 #[.val (.ref a), .unset] [(.ref a)])) rfl rfl (hb hby own_h418)
 have k4 : own_J p e below T25 m 11 #[.val (.ref a), .unset] [(.int (0 : Int32))] B_ := fun t_ hh => k3 t_ (st28 t_ hh)
 have k5 : own_J p e below T25 m 32 #[.val (.ref a), .unset] [(.ref a)] B_ := fun t_ hh => k4 t_ (by
  refine XS.ifYes X26.here hx rfl (pc0 := 11) (pc' := 31) rfl (hb hby own_h419) rfl (by decide) (by decide) (by decide) ?_
  refine XS.aloadN X26.here hx rfl (hb hby own_h420) rfl rfl ?_
  exact hh)
 obtain ⟨cq40, kq41, qa42, qb43, qc44⟩ := isOf hZ e27 f0_
 obtain ⟨_, _, ⟨T29, L30, k_31, n_32⟩, -, X33, ⟨Lc34, hQ35, l_36, y_37, z_38⟩, st39⟩ := X26.interfaceBack hx (xi := (⟨"java/util/Collection", "isEmpty", "()Z"⟩ : MethodName)) (y := (⟨"java/util/ArrayList", "isEmpty", "()Z"⟩ : MethodName)) hown (mvT hZ (wT hw 180 rfl)) (mvT hZ (wT hw 181 rfl)) (mvT hZ (wT hw 182 rfl)) (mvT hZ (wT hw 183 rfl)) (mvT hZ (wT hw 184 rfl)) (mvT hZ (wT hw 185 rfl)) (mvT hZ (wT hw 186 rfl)) (mvT hZ (wT hw 187 rfl)) (by decide) (backOf (W := 0) (rmIe l Z a0 hw [] a (3 : Int32) h0 n0 Z0 f2_ (by decide) ) hZ (wT hw 188 rfl) (wT hw 29 rfl) (by decide) (by decide)) qa42 qb43 qc44 (g := (mkF m 32 #[.val (.ref a), .unset] [(.ref a)])) rfl (by rw [hml]; rfl) (Steps.refl _) (argsL := []) (rest := []) (lenOf own_h422 rfl) rfl (by show 2 * 0 + _ ≤ _; exact Nat.le_of_eq rfl) (hb hby own_h421) (fun _ _ => ⟨rfl, e27, own_l rfl, own_l rfl⟩)
 dsimp only [Pt.U, Pt.locs, Pt.cells, Pt.slots] at X33 l_36 y_37 z_38 st39 hQ35
 subst l_36 y_37 z_38
 obtain ⟨rfl, N45, e46⟩ := hQ35
 have N47 := Fr.app N0 N45
 have k6 : own_J p e below T29 m 37 #[.val (.ref a), .unset] [(.int (0 : Int32))] B_ := fun t_ hh => k5 t_ (st39.trans hh)
 have k7 : own_J p e below T29 m 45 #[.val (.ref a), .unset] [(.ref a)] B_ := fun t_ hh => k6 t_ (by
  refine XS.ifYes X33.here hx rfl (pc0 := 37) (pc' := 44) rfl (hb hby own_h423) rfl (by decide) (by decide) (by decide) ?_
  refine XS.aloadN X33.here hx rfl (hb hby own_h424) rfl rfl ?_
  exact hh)
 obtain ⟨cq59, kq60, qa61, qb62, qc63⟩ := isOf hZ e46 f0_
 obtain ⟨_, _, ⟨T48, L49, k_50, n_51⟩, -, X52, ⟨Lc53, hQ54, l_55, y_56, z_57⟩, st58⟩ := X33.interfaceBack hx (xi := (⟨"java/util/Collection", "toArray", "()[Ljava/lang/Object;"⟩ : MethodName)) (y := (⟨"java/util/ArrayList", "toArray", "()[Ljava/lang/Object;"⟩ : MethodName)) hown (mvT hZ (wT hw 189 rfl)) (mvT hZ (wT hw 190 rfl)) (mvT hZ (wT hw 191 rfl)) (mvT hZ (wT hw 192 rfl)) (mvT hZ (wT hw 193 rfl)) (mvT hZ (wT hw 194 rfl)) (mvT hZ (wT hw 195 rfl)) (mvT hZ (wT hw 187 rfl)) (by decide) (backOf (W := 0) (rmTa3 l Z a0 hw [] a ea ke x0 x1 x2 h0 n0 Z0 f1_ f2_ f3_ f4_ f5_ f6_ f7_ mr hM) hZ (wT hw 196 rfl) (wT hw 29 rfl) (by decide) (by decide)) qa61 qb62 qc63 (g := (mkF m 45 #[.val (.ref a), .unset] [(.ref a)])) rfl (by rw [hml]; rfl) (Steps.refl _) (argsL := []) (rest := []) (lenOf own_h233 rfl) rfl (by show 2 * 0 + _ ≤ _; exact Nat.le_of_eq rfl) (hb hby own_h425) (fun _ _ => ⟨rfl, e46, own_l rfl, own_l rfl⟩)
 dsimp only [Pt.U, Pt.locs, Pt.cells, Pt.slots] at X52 l_55 y_56 z_57 st58 hQ54
 subst l_55 y_56 z_57
 obtain ⟨r65, kr66, rfl, N64, K71, F67, F68, F69, F70, -⟩ := hQ54
 have N72 := Fr.app N47 N64
 have H073 : h0.size ≤ r65 := Nat.le_trans K0.1 F70
 have F74 := f0_.keep K71
 have F75 := f1_.keep K71 nin0
 have F76 := f2_.keep K71 nin0
 have F77 := f3_.keep K71
 have F78 := f4_.keep K71 nin0
 have F79 := f5_.keep K71
 have F80 := f6_.keep K71
 have F81 := f7_.keep K71
 have Z82 : n0 ≤ T48.heap.size := Nat.le_trans Z0 K71.1
 have O83 := f8_.keep K71 all0
 have P84 : Keep h0 T48.heap [] := K0.trans K71 (fun _ q => nomatch q)
 have e85 : T48.heap = T48.heap := rfl
 have k8 : own_J p e below T48 m 50 #[.val (.ref a), .unset] [(.ref r65)] B_ := fun t_ hh => k7 t_ (st58.trans hh)
 obtain ⟨_, _, ⟨T86, L87, k_88, n_89⟩, -, X90, ⟨Lc91, hQ92, l_93, y_94, z_95⟩, st96⟩ := Jvm.LawKit.callS X52 hx (y := (⟨"java/util/List", "of", "([Ljava/lang/Object;)Ljava/util/List;"⟩ : MethodName)) hown (mvT hZ (wT hw 219 rfl)) (mvT hZ (wT hw 220 rfl)) (mvT hZ (wT hw 168 rfl)) (mvT hZ (wT hw 221 rfl)) (by decide) (backOf (W := 0) (rmLo3 l Z a0 hw [] r65 kr66 x0 x1 x2 em T48.heap n0 Z82 F67 F79 F80 F81 O83 sE) hZ (wT hw 221 rfl) (wT hw 168 rfl) (by decide) (by decide)) (g := (mkF m 50 #[.val (.ref a), .unset] [(.ref r65)])) rfl (by rw [hml]; rfl) (argsL := [(.ref r65)]) (rest := []) (lenOf own_h427 rfl) rfl (by show 2 * 0 + _ ≤ _; exact Nat.le_of_eq rfl) (hb hby own_h426) (fun _ _ => ⟨rfl, e85, own_l rfl, own_l rfl⟩)
 dsimp only [Pt.U, Pt.locs, Pt.cells, Pt.slots] at X90 l_93 y_94 z_95 st96 hQ92
 subst l_93 y_94 z_95
 obtain ⟨r98, q99, kq100, rfl, N97, K109, F101, F102, F103, F104, F105, F106, F107, F108, -⟩ := hQ92
 have N110 := Fr.app N72 N97
 have H0111 : h0.size ≤ r98 := Nat.le_trans P84.1 F105
 have H0112 : h0.size ≤ q99 := Nat.le_trans P84.1 F106
 have F113 := F74.keep K109
 have F114 := F75.keep K109 nin0
 have F115 := F76.keep K109 nin0
 have F116 := F77.keep K109
 have F117 := F78.keep K109 nin0
 have F118 := F79.keep K109
 have F119 := F80.keep K109
 have F120 := F81.keep K109
 have F121 := F67.keep K109 nin0
 have Z122 : n0 ≤ T86.heap.size := Nat.le_trans Z82 K109.1
 have O123 := O83.keep K109 all0
 have P124 : Keep h0 T86.heap [] := P84.trans K109 (fun _ q => nomatch q)
 have e125 : T86.heap = T86.heap := rfl
 have k9 : own_J p e below T86 m 53 #[.val (.ref a), .unset] [(.ref r98)] B_ := fun t_ hh => k8 t_ (st96 t_ hh)
 obtain ⟨fs, hr, hrun, hended, hW, hsame⟩ := X90.leave (v := some (.ref r98)) (fun h => by rw [Bd.returns] at h; cases h)
 refine ⟨_, _, (own_from hB_ (k9 _ (retOut X90 hx (t := .object "java/util/List") Bd.returns rfl (Or.inr (Or.inr (Or.inr (Or.inr ⟨rfl, rfl, rfl⟩)))) (hb hby own_h428) hr))), hrun, hended, _, _, rfl, ?_, ⟨_, rfl⟩, hW, hsame.mono (own_l rfl) (own_l rfl)⟩
 show Q_rmLc3 Z a ea ke x0 x1 x2 em h0 n0 _ T86.heap _
 rw [e125]
 exact ⟨r98, q99, kq100, rfl, N110, P124, F101, F102, F103, F104, H0111, H0112, F107, F108, trivial⟩
def Q_rmCo3 (Z : State) (a : Addr) (ea : Addr) (ke : ClassId) (x0 : Addr) (x1 : Addr) (x2 : Addr) (em : Addr) (h0 : Heap) (n0 : Nat) (v : Option Value) (h : Heap) (L : List Loc) : Prop := ∃ r : Addr, ∃ q : Addr, ∃ kq : ClassId, v = some (.ref r) ∧ Fr n0 L ∧ Keep h0 h [] ∧ Exa Z h r "java/util/ImmutableCollections$ListN" ∧ Fld Z h r "java/util/ImmutableCollections$ListN" "elements" "[Ljava/lang/Object;" (.ref q) ∧ Arv Z h q kq (.object "java/lang/Object") (3 : Int32) [(.ref x0), (.ref x1), (.ref x2)] .null ∧ n0 ≤ r ∧ h0.size ≤ r ∧ h0.size ≤ q ∧ n0 ≤ q ∧ q ≠ r ∧ True
set_option maxRecDepth 65536 in
set_option maxHeartbeats 40000000 in
theorem rmCo3 (l : Launch) (Z : State) (a0 : Array Value) (hw : ∀ d ∈ tables_1, d.before a0 Z = true) (ws : List Jvm.Cond) (a : Addr) (ea : Addr) (ke : ClassId) (x0 : Addr) (x1 : Addr) (x2 : Addr) (em : Addr) (h0 : Heap) (n0 : Nat) (Z0 : n0 ≤ h0.size) (f0_ : Exa Z h0 a "java/util/ArrayList") (f1_ : Fld Z h0 a "java/util/ArrayList" "elementData" "[Ljava/lang/Object;" (.ref ea)) (f2_ : Fld Z h0 a "java/util/ArrayList" "size" "I" (.int (3 : Int32))) (f3_ : Exa Z h0 ea "[Ljava/lang/Object;") (f4_ : Arv Z h0 ea ke (.object "java/lang/Object") (10 : Int32) [(.ref x0), (.ref x1), (.ref x2), .null, .null, .null, .null, .null, .null, .null] .null) (f5_ : Exa Z h0 x0 "java/lang/String") (f6_ : Exa Z h0 x1 "java/lang/String") (f7_ : Exa Z h0 x2 "java/lang/String") (f8_ : Old Z n0 h0) (sE : Sta Z Z.heap "java/util/ImmutableCollections" "EMPTY" "Ljava/lang/Object;" (.ref em)) (mr : Addr) (hM : own_Mir Z "[Ljava/lang/Object;" mr) :
    own_Met l (⟨"java/util/List", "copyOf", "(Ljava/util/Collection;)Ljava/util/List;"⟩ : MethodName) jdk_40_method_48_code 1 (some (.object "java/util/List")) ws (rO 8 3 8 103) #[(.ref a)] Z h0 (Q_rmCo3 Z a ea ke x0 x1 x2 em h0 n0) := by
 refine MetFree.of_bodySF (plainFor_of_name own_h402) hisR ?_
 intro p e s m args below meth c s₁ Bd hml0 hP hK
 obtain ⟨rfl, hZ, hh⟩ := hP
 have hx := Bd.exec
 have hby := Bd.bytes
 have hml : c.maxLocals = 1 := hml0
 have hown : s.vm.findClass "java/util/List" = some m.cls := findClass_of_methodNamed Bd.named
 have hnm := (name_of_methodNamed Bd.named Bd.method).1
 have X0 : Stand p l e (rO 8 3 8 103) s m #[(.ref a)] below meth c s₁ [] 0 0 := Stand.of_body Bd
 have e0 : s₁.heap = h0 := by rw [← hh, Bd.state]; rfl
 have N0 := Fr.nil n0
 obtain ⟨B_, hB_⟩ : ∃ z, z = s₁.setTop (entryFrame m #[(.ref a)] 1) := ⟨_, rfl⟩
 have k0 : own_K p e below (s₁.setTop (mkF m 0 #[.val (.ref a)] [])) B_ := by rw [hB_]; exact fun t k => castTop (by clear k; first | (simp [entryFrame, mkF, argsToLocals, Value.category, maxLocals]; done) | rfl) k
 have K0 : Keep h0 h0 [] := Keep.refl _ _
 have k1 : own_J p e below s₁ m 1 #[.val (.ref a)] [(.ref a)] B_ := fun t_ hh => k0 t_ (by
  refine XS.aloadN X0.here hx rfl (hb hby own_h429) rfl rfl ?_
  exact hh)
 obtain ⟨_, _, ⟨T21, L22, k_23, n_24⟩, -, X25, ⟨Lc26, hQ27, l_28, y_29, z_30⟩, st31⟩ := Jvm.LawKit.callS X0 hx (y := (⟨"java/util/ImmutableCollections", "listCopy", "(Ljava/util/Collection;)Ljava/util/List;"⟩ : MethodName)) hown (mvT hZ (wT hw 170 rfl)) (mvT hZ (wT hw 171 rfl)) (mvT hZ (wT hw 172 rfl)) (mvT hZ (wT hw 173 rfl)) (by decide) (backOf (W := 0) (rmLc3 l Z a0 hw [] a ea ke x0 x1 x2 em h0 n0 Z0 f0_ f1_ f2_ f3_ f4_ f5_ f6_ f7_ f8_ sE mr hM) hZ (wT hw 173 rfl) (wT hw 172 rfl) (by decide) (by decide)) (g := (mkF m 1 #[.val (.ref a)] [(.ref a)])) rfl (by rw [hml]; rfl) (argsL := [(.ref a)]) (rest := []) (lenOf own_h431 rfl) rfl (by show 2 * 0 + _ ≤ _; exact Nat.le_of_eq rfl) (hb hby own_h430) (fun _ _ => ⟨rfl, e0, own_l rfl, own_l rfl⟩)
 dsimp only [Pt.U, Pt.locs, Pt.cells, Pt.slots] at X25 l_28 y_29 z_30 st31 hQ27
 subst l_28 y_29 z_30
 obtain ⟨r33, q34, kq35, rfl, N32, K44, F36, F37, F38, F39, F40, F41, F42, F43, -⟩ := hQ27
 have N45 := Fr.app N0 N32
 have H046 : h0.size ≤ r33 := Nat.le_trans K0.1 F40
 have H047 : h0.size ≤ q34 := Nat.le_trans K0.1 F41
 have F48 := f0_.keep K44
 have F49 := f1_.keep K44 nin0
 have F50 := f2_.keep K44 nin0
 have F51 := f3_.keep K44
 have F52 := f4_.keep K44 nin0
 have F53 := f5_.keep K44
 have F54 := f6_.keep K44
 have F55 := f7_.keep K44
 have Z56 : n0 ≤ T21.heap.size := Nat.le_trans Z0 K44.1
 have O57 := f8_.keep K44 all0
 have P58 : Keep h0 T21.heap [] := K0.trans K44 (fun _ q => nomatch q)
 have e59 : T21.heap = T21.heap := rfl
 have k2 : own_J p e below T21 m 4 #[.val (.ref a)] [(.ref r33)] B_ := fun t_ hh => k1 t_ (st31 t_ hh)
 obtain ⟨fs, hr, hrun, hended, hW, hsame⟩ := X25.leave (v := some (.ref r33)) (fun h => by rw [Bd.returns] at h; cases h)
 refine ⟨_, _, (own_from hB_ (k2 _ (retOut X25 hx (t := .object "java/util/List") Bd.returns rfl (Or.inr (Or.inr (Or.inr (Or.inr ⟨rfl, rfl, rfl⟩)))) (hb hby own_h432) hr))), hrun, hended, _, _, rfl, ?_, ⟨_, rfl⟩, hW, hsame.mono (own_l rfl) (own_l rfl)⟩
 show Q_rmCo3 Z a ea ke x0 x1 x2 em h0 n0 _ T21.heap _
 rw [e59]
 exact ⟨r33, q34, kq35, rfl, N45, P58, F36, F37, F38, F39, H046, H047, F42, F43, trivial⟩
def Q_rmTC1 (Z : State) (a : Addr) (tp : Addr) (b : Addr) (ea : Addr) (ke : ClassId) (g : Addr) (f : Addr) (kf : ClassId) (x0 : Addr) (d0 : Addr) (u0 : UInt64) (em : Addr) (h0 : Heap) (n0 : Nat) (v : Option Value) (h : Heap) (L : List Loc) : Prop := ∃ r : Addr, v = none ∧ Fr n0 L ∧ Keep h0 h [a] ∧ Exa Z h a "com/example/level_slate/levelslate/TopicCandidates" ∧ Fld Z h a "com/example/level_slate/levelslate/TopicCandidates" "candidates" "Ljava/util/List;" (.ref r) ∧ Exa Z h r "java/util/ImmutableCollections$List12" ∧ Fld Z h r "java/util/ImmutableCollections$List12" "e0" "Ljava/lang/Object;" (.ref x0) ∧ Fld Z h r "java/util/ImmutableCollections$List12" "e1" "Ljava/lang/Object;" (.ref em) ∧ True
theorem own_h447 : plainName "com/example/level_slate/levelslate/TopicCandidates" = true := by first | (simp [plainName, overriddenIn]; done) | decide +kernel
theorem own_h448 : decode prog_14_method_1_code 0 = .ok (.aload_n 0, 1) := by decide +kernel
theorem own_h449 : decode prog_14_method_1_code 1 = .ok (.invokespecial 1, 3) := by decide +kernel
theorem own_h450 : decode prog_14_method_1_code 4 = .ok (.aload_n 2, 1) := by decide +kernel
theorem own_h451 : decode prog_14_method_1_code 5 = .ok (.invokeinterface 7 1, 5) := by decide +kernel
theorem own_h452 : parseMethodDescriptor "()I" = some ⟨[], some .int⟩ := by decide +kernel
theorem own_h453 : decode prog_14_method_1_code 10 = .ok (.newarray .double, 2) := by decide +kernel
theorem own_h454 : decode prog_14_method_1_code 12 = .ok (.astore 4, 2) := by decide +kernel
theorem own_h455 : decode prog_14_method_1_code 14 = .ok (.iconst 0, 1) := by decide +kernel
theorem own_h456 : decode prog_14_method_1_code 15 = .ok (.istore 5, 2) := by decide +kernel
theorem own_h457 : decode prog_14_method_1_code 17 = .ok (.iload 5, 2) := by decide +kernel
theorem own_h458 : decode prog_14_method_1_code 19 = .ok (.aload 4, 2) := by decide +kernel
theorem own_h459 : decode prog_14_method_1_code 21 = .ok (.arraylength, 1) := by decide +kernel
theorem own_h460 : decode prog_14_method_1_code 22 = .ok (.if_icmp .ge 28, 3) := by decide +kernel
theorem own_h461 : decode prog_14_method_1_code 25 = .ok (.aload 4, 2) := by decide +kernel
theorem own_h462 : decode prog_14_method_1_code 27 = .ok (.iload 5, 2) := by decide +kernel
theorem own_h463 : decode prog_14_method_1_code 29 = .ok (.aload_n 3, 1) := by decide +kernel
theorem own_h464 : decode prog_14_method_1_code 30 = .ok (.iload 5, 2) := by decide +kernel
theorem own_h465 : decode prog_14_method_1_code 32 = .ok (.invokeinterface 13 2, 5) := by decide +kernel
theorem own_h466 : decode prog_14_method_1_code 37 = .ok (.checkcast 17, 3) := by decide +kernel
theorem own_h467 : decode prog_14_method_1_code 40 = .ok (.invokevirtual 19, 3) := by decide +kernel
theorem own_h468 : parseMethodDescriptor "()D" = some ⟨[], some .double⟩ := by decide +kernel
theorem own_h469 : decode prog_14_method_1_code 43 = .ok (.dastore, 1) := by decide +kernel
theorem own_h470 : decode prog_14_method_1_code 44 = .ok (.iinc 5 1, 3) := by decide +kernel
theorem own_h471 : decode prog_14_method_1_code 47 = .ok (.goto (-30), 3) := by decide +kernel
theorem own_h472 : decode prog_14_method_1_code 50 = .ok (.aload_n 0, 1) := by decide +kernel
theorem own_h473 : decode prog_14_method_1_code 51 = .ok (.aload_n 1, 1) := by decide +kernel
theorem own_h474 : decode prog_14_method_1_code 52 = .ok (.putfield 23, 3) := by decide +kernel
theorem own_h475 : decode prog_14_method_1_code 55 = .ok (.aload_n 0, 1) := by decide +kernel
theorem own_h476 : decode prog_14_method_1_code 56 = .ok (.aload_n 2, 1) := by decide +kernel
theorem own_h477 : decode prog_14_method_1_code 57 = .ok (.invokestatic 29, 3) := by decide +kernel
theorem own_h478 : decode prog_14_method_1_code 60 = .ok (.putfield 33, 3) := by decide +kernel
theorem own_h479 : decode prog_14_method_1_code 63 = .ok (.aload_n 0, 1) := by decide +kernel
theorem own_h480 : decode prog_14_method_1_code 64 = .ok (.aload 4, 2) := by decide +kernel
theorem own_h481 : decode prog_14_method_1_code 66 = .ok (.putfield 37, 3) := by decide +kernel
theorem own_h482 : decode prog_14_method_1_code 69 = .ok (.return_, 1) := by decide +kernel
set_option maxRecDepth 65536 in
set_option maxHeartbeats 40000000 in
theorem rmTC1 (l : Launch) (Z : State) (a0 : Array Value) (hw : ∀ d ∈ tables_1, d.before a0 Z = true) (ws : List Jvm.Cond) (a : Addr) (tp : Addr) (b : Addr) (ea : Addr) (ke : ClassId) (g : Addr) (f : Addr) (kf : ClassId) (x0 : Addr) (d0 : Addr) (u0 : UInt64) (em : Addr) (h0 : Heap) (n0 : Nat) (Z0 : n0 ≤ h0.size) (f0_ : Exa Z h0 a "com/example/level_slate/levelslate/TopicCandidates") (f1_ : Fld Z h0 a "com/example/level_slate/levelslate/TopicCandidates" "topic" "Ljava/lang/String;" .null) (f2_ : Fld Z h0 a "com/example/level_slate/levelslate/TopicCandidates" "candidates" "Ljava/util/List;" .null) (f3_ : Fld Z h0 a "com/example/level_slate/levelslate/TopicCandidates" "runScores" "[D" .null) (f4_ : n0 ≤ a) (f5_ : Old Z n0 h0) (f6_ : Exa Z h0 b "java/util/ArrayList") (f7_ : Fld Z h0 b "java/util/ArrayList" "elementData" "[Ljava/lang/Object;" (.ref ea)) (f8_ : Fld Z h0 b "java/util/ArrayList" "size" "I" (.int (1 : Int32))) (f9_ : Exa Z h0 ea "[Ljava/lang/Object;") (f10_ : Arv Z h0 ea ke (.object "java/lang/Object") (10 : Int32) [(.ref x0), .null, .null, .null, .null, .null, .null, .null, .null, .null] .null) (f11_ : Exa Z h0 g "java/util/ArrayList") (f12_ : Fld Z h0 g "java/util/ArrayList" "elementData" "[Ljava/lang/Object;" (.ref f)) (f13_ : Fld Z h0 g "java/util/ArrayList" "size" "I" (.int (1 : Int32))) (f14_ : Arv Z h0 f kf (.object "java/lang/Object") (10 : Int32) [(.ref d0), .null, .null, .null, .null, .null, .null, .null, .null, .null] .null) (f15_ : Exa Z h0 x0 "java/lang/String") (f16_ : Exa Z h0 d0 "java/lang/Double") (f17_ : Fld Z h0 d0 "java/lang/Double" "value" "D" (.double u0)) (f18_ : b ≠ a) (f19_ : ea ≠ a) (f20_ : g ≠ a) (f21_ : f ≠ a) (f22_ : d0 ≠ a) (sE : Sta Z Z.heap "java/util/ImmutableCollections" "EMPTY" "Ljava/lang/Object;" (.ref em)) (mr : Addr) (hM : own_Mir Z "[Ljava/lang/Object;" mr) :
    own_Met l (⟨"com/example/level_slate/levelslate/TopicCandidates", "<init>", "(Ljava/lang/String;Ljava/util/List;Ljava/util/List;)V"⟩ : MethodName) prog_14_method_1_code 6 none ws (rO 8 3 4 106) #[(.ref a), (.ref tp), (.ref b), (.ref g)] Z h0 (Q_rmTC1 Z a tp b ea ke g f kf x0 d0 u0 em h0 n0) := by
 refine MetFree.of_bodySF (plainFor_of_name own_h447) hisR ?_
 intro p e s m args below meth c s₁ Bd hml0 hP hK
 obtain ⟨rfl, hZ, hh⟩ := hP
 have hx := Bd.exec
 have hby := Bd.bytes
 have hml : c.maxLocals = 6 := hml0
 have hown : s.vm.findClass "com/example/level_slate/levelslate/TopicCandidates" = some m.cls := findClass_of_methodNamed Bd.named
 have hnm := (name_of_methodNamed Bd.named Bd.method).1
 have X0 : Stand p l e (rO 8 3 4 106) s m #[(.ref a), (.ref tp), (.ref b), (.ref g)] below meth c s₁ [] 0 0 := Stand.of_body Bd
 have e0 : s₁.heap = h0 := by rw [← hh, Bd.state]; rfl
 have N0 := Fr.nil n0
 obtain ⟨B_, hB_⟩ : ∃ z, z = s₁.setTop (entryFrame m #[(.ref a), (.ref tp), (.ref b), (.ref g)] 6) := ⟨_, rfl⟩
 have k0 : own_K p e below (s₁.setTop (mkF m 0 #[.val (.ref a), .val (.ref tp), .val (.ref b), .val (.ref g), .unset, .unset] [])) B_ := by rw [hB_]; exact fun t k => castTop (by clear k; first | (simp [entryFrame, mkF, argsToLocals, Value.category, maxLocals]; done) | rfl) k
 have K0 : Keep h0 h0 [a] := Keep.refl _ _
 have k1 : own_J p e below s₁ m 1 #[.val (.ref a), .val (.ref tp), .val (.ref b), .val (.ref g), .unset, .unset] [(.ref a)] B_ := fun t_ hh => k0 t_ (by
  refine XS.aloadN X0.here hx rfl (hb hby own_h448) rfl rfl ?_
  exact hh)
 obtain ⟨T21, X22, e23, st24⟩ := initO X0 hx hZ hown (wT hw 127 rfl) (wT hw 17 rfl) (wT hw 18 rfl) e0 (g := (mkF m 1 #[.val (.ref a), .val (.ref tp), .val (.ref b), .val (.ref g), .unset, .unset] [(.ref a)])) rfl (by rw [hml]; rfl) rfl (hb hby own_h449) (by decide) (W := 0) (by show 2 * 0 + _ ≤ _; exact Nat.le_of_eq rfl) (by decide)
 have k2 : own_J p e below T21 m 4 #[.val (.ref a), .val (.ref tp), .val (.ref b), .val (.ref g), .unset, .unset] [] B_ := fun t_ hh => k1 t_ (st24 t_ hh)
 have k3 : own_J p e below T21 m 5 #[.val (.ref a), .val (.ref tp), .val (.ref b), .val (.ref g), .unset, .unset] [(.ref b)] B_ := fun t_ hh => k2 t_ (by
  refine XS.aloadN X22.here hx rfl (hb hby own_h450) rfl rfl ?_
  exact hh)
 obtain ⟨cq36, kq37, qa38, qb39, qc40⟩ := isOf hZ e23 f6_
 obtain ⟨_, _, ⟨T25, L26, k_27, n_28⟩, -, X29, ⟨Lc30, hQ31, l_32, y_33, z_34⟩, st35⟩ := X22.interfaceBack hx (xi := (⟨"java/util/List", "size", "()I"⟩ : MethodName)) (y := (⟨"java/util/ArrayList", "size", "()I"⟩ : MethodName)) hown (mvT hZ (wT hw 128 rfl)) (mvT hZ (wT hw 129 rfl)) (mvT hZ (wT hw 130 rfl)) (mvT hZ (wT hw 131 rfl)) (mvT hZ (wT hw 132 rfl)) (mvT hZ (wT hw 133 rfl)) (mvT hZ (wT hw 134 rfl)) (mvT hZ (wT hw 58 rfl)) (by decide) (backOf (W := 0) (rmSz l Z a0 hw [] b (1 : Int32) h0 n0 Z0 f8_ ) hZ (wT hw 135 rfl) (wT hw 29 rfl) (by decide) (by decide)) qa38 qb39 qc40 (g := (mkF m 5 #[.val (.ref a), .val (.ref tp), .val (.ref b), .val (.ref g), .unset, .unset] [(.ref b)])) rfl (by rw [hml]; rfl) (Steps.refl _) (argsL := []) (rest := []) (lenOf own_h452 rfl) rfl (by show 2 * 0 + _ ≤ _; exact Nat.le_of_eq rfl) (hb hby own_h451) (fun _ _ => ⟨rfl, e23, own_l rfl, own_l rfl⟩)
 dsimp only [Pt.U, Pt.locs, Pt.cells, Pt.slots] at X29 l_32 y_33 z_34 st35 hQ31
 subst l_32 y_33 z_34
 obtain ⟨rfl, N41, e42⟩ := hQ31
 have N43 := Fr.app N0 N41
 have k4 : own_J p e below T25 m 10 #[.val (.ref a), .val (.ref tp), .val (.ref b), .val (.ref g), .unset, .unset] [(.int (1 : Int32))] B_ := fun t_ hh => k3 t_ (st35.trans hh)
 obtain ⟨T44, h45, kA46, X47, e48, E49, A50, st52⟩ := newP X29 hx hZ (wT hw 136 rfl) e42 (g := (mkF m 10 #[.val (.ref a), .val (.ref tp), .val (.ref b), .val (.ref g), .unset, .unset] [(.int (1 : Int32))])) rfl (hb hby own_h453) rfl (by decide) (cap := 1) (by decide) (by decide) (by decide) (by decide)
 obtain ⟨a53, g54⟩ : ∃ z, z = h0.size := ⟨_, rfl⟩
 rw [← g54] at A50 st52
 have H055 : h0.size ≤ a53 := Nat.le_trans K0.1 (Nat.le_of_eq g54.symm)
 have G56 : n0 ≤ a53 := Nat.le_trans Z0 (Nat.le_of_eq g54.symm)
 have F57 := Exa.ext (h' := h45) E49 f0_
 have F58 := Fld.ext (h' := h45) E49 f1_
 have F59 := Fld.ext (h' := h45) E49 f2_
 have F60 := Fld.ext (h' := h45) E49 f3_
 have F61 := Exa.ext (h' := h45) E49 f6_
 have F62 := Fld.ext (h' := h45) E49 f7_
 have F63 := Fld.ext (h' := h45) E49 f8_
 have F64 := Exa.ext (h' := h45) E49 f9_
 have F65 := f10_.ext E49
 have F66 := Exa.ext (h' := h45) E49 f11_
 have F67 := Fld.ext (h' := h45) E49 f12_
 have F68 := Fld.ext (h' := h45) E49 f13_
 have F69 := f14_.ext E49
 have F70 := Exa.ext (h' := h45) E49 f15_
 have F71 := Exa.ext (h' := h45) E49 f16_
 have F72 := Fld.ext (h' := h45) E49 f17_
 have Z73 : n0 ≤ h45.size := Nat.le_trans Z0 E49.1
 have O74 := f5_.ext E49
 have P75 : Keep h0 h45 [a] := K0.ext E49
 have V76 : Arv Z h45 a53 kA46 .double (1 : Int32) [(.double (0 : UInt64))] (.double (0 : UInt64)) := Arv.pad (Arv.new A50 (by decide)) (pad_rep [] (.double (0 : UInt64)) 1)
 have k5 : own_J p e below T44 m 12 #[.val (.ref a), .val (.ref tp), .val (.ref b), .val (.ref g), .unset, .unset] [(.ref a53)] B_ := fun t_ hh => k4 t_ (st52 t_ hh)
 obtain ⟨cl77, Ar78, -, S79, Ng80, -, -⟩ := id V76
 have k6 : own_J p e below T44 m 32 #[.val (.ref a), .val (.ref tp), .val (.ref b), .val (.ref g), .val (.ref a53), .val (.int (0 : Int32))] [(.int (0 : Int32)), (.ref g), (.int (0 : Int32)), (.ref a53)] B_ := fun t_ hh => k5 t_ (by
  refine XS.astore X47.here hx rfl (hb hby own_h454) rfl rfl (l' := #[.val (.ref a), .val (.ref tp), .val (.ref b), .val (.ref g), .val (.ref a53), .unset]) rfl ?_
  refine XS.iconst X47.here hx rfl (hb hby own_h455) ?_
  refine XS.istore X47.here hx rfl (hb hby own_h456) rfl (l' := #[.val (.ref a), .val (.ref tp), .val (.ref b), .val (.ref g), .val (.ref a53), .val (.int (0 : Int32))]) rfl ?_
  refine XS.iload X47.here hx rfl (hb hby own_h457) rfl ?_
  refine XS.aload X47.here hx rfl (hb hby own_h458) rfl rfl ?_
  refine X47.arraylength hx (by rw [e48]; exact Ar78.1) (State.isArrayOf_alike hZ.alike Ar78.2.1) (g := (mkF m 21 #[.val (.ref a), .val (.ref tp), .val (.ref b), .val (.ref g), .val (.ref a53), .val (.int (0 : Int32))] [(.ref a53), (.int (0 : Int32))])) rfl rfl (hb hby own_h459) _ ?_
  rw [len_of S79 Ng80]
  refine XS.icmpNo X47.here hx rfl (hb hby own_h460) rfl (by decide) ?_
  refine XS.aload X47.here hx rfl (hb hby own_h461) rfl rfl ?_
  refine XS.iload X47.here hx rfl (hb hby own_h462) rfl ?_
  refine XS.aloadN X47.here hx rfl (hb hby own_h463) rfl rfl ?_
  refine XS.iload X47.here hx rfl (hb hby own_h464) rfl ?_
  exact hh)
 obtain ⟨cq92, kq93, qa94, qb95, qc96⟩ := isOf hZ e48 F66
 obtain ⟨_, _, ⟨T81, L82, k_83, n_84⟩, -, X85, ⟨Lc86, hQ87, l_88, y_89, z_90⟩, st91⟩ := X47.interfaceBack hx (xi := (⟨"java/util/List", "get", "(I)Ljava/lang/Object;"⟩ : MethodName)) (y := (⟨"java/util/ArrayList", "get", "(I)Ljava/lang/Object;"⟩ : MethodName)) hown (mvT hZ (wT hw 137 rfl)) (mvT hZ (wT hw 138 rfl)) (mvT hZ (wT hw 139 rfl)) (mvT hZ (wT hw 140 rfl)) (mvT hZ (wT hw 141 rfl)) (mvT hZ (wT hw 142 rfl)) (mvT hZ (wT hw 143 rfl)) (mvT hZ (wT hw 58 rfl)) (by decide) (backOf (W := 2) (rmGet0 l Z a0 hw [] g f kf d0 ([(.ref d0), .null, .null, .null, .null, .null, .null, .null, .null, .null]) (1 : Int32) h45 n0 Z73 F66 F68 (by decide) F67 F69 rfl ) hZ (wT hw 144 rfl) (wT hw 29 rfl) (by decide) (by decide)) qa94 qb95 qc96 (g := (mkF m 32 #[.val (.ref a), .val (.ref tp), .val (.ref b), .val (.ref g), .val (.ref a53), .val (.int (0 : Int32))] [(.int (0 : Int32)), (.ref g), (.int (0 : Int32)), (.ref a53)])) rfl (by rw [hml]; rfl) (Steps.refl _) (argsL := [(.int (0 : Int32))]) (rest := [(.int (0 : Int32)), (.ref a53)]) (lenOf own_h297 rfl) rfl (by show 2 * 0 + _ ≤ _; exact Nat.le_of_eq rfl) (hb hby own_h465) (fun _ _ => ⟨rfl, e48, own_l rfl, own_l rfl⟩)
 dsimp only [Pt.U, Pt.locs, Pt.cells, Pt.slots] at X85 l_88 y_89 z_90 st91 hQ87
 subst l_88 y_89 z_90
 obtain ⟨rfl, N97, e98⟩ := hQ87
 have N99 := Fr.app N43 N97
 have k7 : own_J p e below T81 m 37 #[.val (.ref a), .val (.ref tp), .val (.ref b), .val (.ref g), .val (.ref a53), .val (.int (0 : Int32))] [(.ref d0), (.int (0 : Int32)), (.ref a53)] B_ := fun t_ hh => k6 t_ (st91.trans hh)
 obtain ⟨T100, X101, e102, st103⟩ := castY X85 hx hZ hown (wT hw 158 rfl) e98 (Ins.self F71) (g := (mkF m 37 #[.val (.ref a), .val (.ref tp), .val (.ref b), .val (.ref g), .val (.ref a53), .val (.int (0 : Int32))] [(.ref d0), (.int (0 : Int32)), (.ref a53)])) rfl rfl (hb hby own_h466)
 have k8 : own_J p e below T100 m 40 #[.val (.ref a), .val (.ref tp), .val (.ref b), .val (.ref g), .val (.ref a53), .val (.int (0 : Int32))] [(.ref d0), (.int (0 : Int32)), (.ref a53)] B_ := fun t_ hh => k7 t_ (st103 t_ hh)
 obtain ⟨cq115, kq116, qa117, qb118, qc119⟩ := isOf hZ e102 F71
 obtain ⟨_, _, ⟨T104, L105, k_106, n_107⟩, -, X108, ⟨Lc109, hQ110, l_111, y_112, z_113⟩, st114⟩ := X101.virtualBack hx (y := (⟨"java/lang/Double", "doubleValue", "()D"⟩ : MethodName)) (z := (⟨"java/lang/Double", "doubleValue", "()D"⟩ : MethodName)) hown (mvT hZ (wT hw 159 rfl)) (mvT hZ (wT hw 160 rfl)) (notFace_of_selects (args := #[]) (mvT hZ (wT hw 162 rfl))) (mvT hZ (wT hw 162 rfl)) (mvT hZ (wT hw 161 rfl)) (by decide) (backOf (W := 2) (rmDd l Z a0 hw [] d0 u0 h45 n0 Z73 F72 ) hZ (wT hw 163 rfl) (wT hw 88 rfl) (by decide) (by decide)) qa117 qc119 (g := (mkF m 40 #[.val (.ref a), .val (.ref tp), .val (.ref b), .val (.ref g), .val (.ref a53), .val (.int (0 : Int32))] [(.ref d0), (.int (0 : Int32)), (.ref a53)])) rfl (by rw [hml]; rfl) (Steps.refl _) (argsL := []) (rest := [(.int (0 : Int32)), (.ref a53)]) (lenOf own_h468 rfl) rfl (by show 2 * 0 + _ ≤ _; exact Nat.le_of_eq rfl) (hb hby own_h467) (fun _ _ => ⟨rfl, e102, own_l rfl, own_l rfl⟩)
 dsimp only [Pt.U, Pt.locs, Pt.cells, Pt.slots] at X108 l_111 y_112 z_113 st114 hQ110
 subst l_111 y_112 z_113
 obtain ⟨rfl, N120, e121⟩ := hQ110
 have N122 := Fr.app N99 N120
 have k9 : own_J p e below T104 m 43 #[.val (.ref a), .val (.ref tp), .val (.ref b), .val (.ref g), .val (.ref a53), .val (.int (0 : Int32))] [(.double u0), (.int (0 : Int32)), (.ref a53)] B_ := fun t_ hh => k8 t_ (st114.trans hh)
 obtain ⟨cl123, Ar124, q125, S126, Ng127, H128, Gf129⟩ := id V76
 have hin130 := inb_of (j := (0 : Int32)) S126 (by decide)
 obtain ⟨T131, h132, X133, e134, W135, st136⟩ := stD X108 hx hZ e121 Ar124 (j := (0 : Int32)) hin130 (g := (mkF m 43 #[.val (.ref a), .val (.ref tp), .val (.ref b), .val (.ref g), .val (.ref a53), .val (.int (0 : Int32))] [(.double u0), (.int (0 : Int32)), (.ref a53)])) rfl rfl (hb hby own_h469)
 have N137 := Fr.snoc X133 N122 G56
 have F138 := Exa.wr W135 F57
 have ne140 : a ≠ a53 := by rw [g54]; exact Nat.ne_of_lt f0_.lt
 have F139 := Fld.other W135 F58 (Or.inl ne140)
 have F141 := Fld.other W135 F59 (Or.inl ne140)
 have F142 := Fld.other W135 F60 (Or.inl ne140)
 have F143 := Exa.wr W135 F61
 have ne145 : b ≠ a53 := by rw [g54]; exact Nat.ne_of_lt f6_.lt
 have F144 := Fld.other W135 F62 (Or.inl ne145)
 have F146 := Fld.other W135 F63 (Or.inl ne145)
 have F147 := Exa.wr W135 F64
 have ne149 : ea ≠ a53 := by rw [g54]; exact Nat.ne_of_lt f9_.lt
 have F148 := F65.other W135 ne149
 have F150 := Exa.wr W135 F66
 have ne152 : g ≠ a53 := by rw [g54]; exact Nat.ne_of_lt f11_.lt
 have F151 := Fld.other W135 F67 (Or.inl ne152)
 have F153 := Fld.other W135 F68 (Or.inl ne152)
 have ne155 : f ≠ a53 := by rw [g54]; exact Nat.ne_of_lt f14_.lt
 have F154 := F69.other W135 ne155
 have F156 := Exa.wr W135 F70
 have F157 := Exa.wr W135 F71
 have ne159 : d0 ≠ a53 := by rw [g54]; exact Nat.ne_of_lt f16_.lt
 have F158 := Fld.other W135 F72 (Or.inl ne159)
 have Z161 : n0 ≤ h132.size := W135.size ▸ Z73
 have O162 := O74.wr W135 G56
 have P163 : Keep h0 h132 [a] := P75.wr W135 (Or.inr H055)
 have V164 : Arv Z h132 a53 kA46 .double (1 : Int32) [(.double u0)] (.double (0 : UInt64)) := Arv.set Ar124 q125 S126 Ng127 H128 Gf129 rfl W135 0 rfl (own_lt rfl)
 have k10 : own_J p e below T131 m 44 #[.val (.ref a), .val (.ref tp), .val (.ref b), .val (.ref g), .val (.ref a53), .val (.int (0 : Int32))] [] B_ := fun t_ hh => k9 t_ (st136 t_ hh)
 obtain ⟨cl165, Ar166, -, S167, Ng168, -, -⟩ := id V164
 have k11 : own_J p e below T131 m 52 #[.val (.ref a), .val (.ref tp), .val (.ref b), .val (.ref g), .val (.ref a53), .val (.int (1 : Int32))] [(.ref tp), (.ref a)] B_ := fun t_ hh => k10 t_ (by
  refine XS.iinc X133.here hx rfl (hb hby own_h470) rfl (l' := #[.val (.ref a), .val (.ref tp), .val (.ref b), .val (.ref g), .val (.ref a53), .val (.int (1 : Int32))]) rfl ?_
  refine XS.goto X133.here hx rfl (pc0 := 47) (pc' := 17) rfl (hb hby own_h471) (by decide) (by decide) ?_
  refine XS.iload X133.here hx rfl (hb hby own_h457) rfl ?_
  refine XS.aload X133.here hx rfl (hb hby own_h458) rfl rfl ?_
  refine X133.arraylength hx (by rw [e134]; exact Ar166.1) (State.isArrayOf_alike hZ.alike Ar166.2.1) (g := (mkF m 21 #[.val (.ref a), .val (.ref tp), .val (.ref b), .val (.ref g), .val (.ref a53), .val (.int (1 : Int32))] [(.ref a53), (.int (1 : Int32))])) rfl rfl (hb hby own_h459) _ ?_
  rw [len_of S167 Ng168]
  refine XS.icmpYes X133.here hx rfl (pc0 := 22) (pc' := 50) rfl (hb hby own_h460) rfl (by decide) (by decide) (by decide) ?_
  refine XS.aloadN X133.here hx rfl (hb hby own_h472) rfl rfl ?_
  refine XS.aloadN X133.here hx rfl (hb hby own_h473) rfl rfl ?_
  exact hh)
 obtain ⟨T169, h170, X171, e172, W173, st174⟩ := putF X133 hx hZ hown (host := "") (Or.inl (wT hw 164 rfl)) Via.refl e134 F139 F138 (Or.inr ⟨(wT hw 165 rfl), rfl, hnm⟩) (wT hw 122 rfl) (ty := .object "java/lang/String") (by decide) rfl rfl (g := (mkF m 52 #[.val (.ref a), .val (.ref tp), .val (.ref b), .val (.ref g), .val (.ref a53), .val (.int (1 : Int32))] [(.ref tp), (.ref a)])) rfl rfl (hb hby own_h474)
 have N175 := Fr.snoc X171 N137 f4_
 have F176 := Exa.wr W173 F138
 have F177 : Fld Z h170 a "com/example/level_slate/levelslate/TopicCandidates" "topic" "Ljava/lang/String;" (.ref tp) := Fld.same W173 F139
 have F178 := Fld.other W173 F141 (Or.inr (slot_ne (Or.inr (wT hw 251 rfl)) (Or.inr (wT hw 165 rfl)) (by decide) (t := (.object "java/util/List")) (t' := (.object "java/lang/String")) (by decide) (by decide)))
 have F179 := Fld.other W173 F142 (Or.inr (slot_ne (Or.inr (wT hw 253 rfl)) (Or.inr (wT hw 165 rfl)) (by decide) (t := (.array .double)) (t' := (.object "java/lang/String")) (by decide) (by decide)))
 have F180 := Exa.wr W173 F143
 have F181 := Fld.other W173 F144 (Or.inl f18_)
 have F182 := Fld.other W173 F146 (Or.inl f18_)
 have F183 := Exa.wr W173 F147
 have F184 := F148.other W173 f19_
 have F185 := Exa.wr W173 F150
 have F186 := Fld.other W173 F151 (Or.inl f20_)
 have F187 := Fld.other W173 F153 (Or.inl f20_)
 have F188 := F154.other W173 f21_
 have F189 := Exa.wr W173 F156
 have F190 := Exa.wr W173 F157
 have F191 := Fld.other W173 F158 (Or.inl f22_)
 have F193 := V164.other W173 (Ne.symm ne140)
 have Z194 : n0 ≤ h170.size := W173.size ▸ Z161
 have O195 := O162.wr W173 f4_
 have P196 : Keep h0 h170 [a] := P163.wr W173 (Or.inl (List.mem_of_getElem? (i := 0) rfl))
 have k12 : own_J p e below T169 m 55 #[.val (.ref a), .val (.ref tp), .val (.ref b), .val (.ref g), .val (.ref a53), .val (.int (1 : Int32))] [] B_ := fun t_ hh => k11 t_ (st174 t_ hh)
 have k13 : own_J p e below T169 m 57 #[.val (.ref a), .val (.ref tp), .val (.ref b), .val (.ref g), .val (.ref a53), .val (.int (1 : Int32))] [(.ref b), (.ref a)] B_ := fun t_ hh => k12 t_ (by
  refine XS.aloadN X171.here hx rfl (hb hby own_h475) rfl rfl ?_
  refine XS.aloadN X171.here hx rfl (hb hby own_h476) rfl rfl ?_
  exact hh)
 obtain ⟨_, _, ⟨T197, L198, k_199, n_200⟩, -, X201, ⟨Lc202, hQ203, l_204, y_205, z_206⟩, st207⟩ := Jvm.LawKit.callS X171 hx (y := (⟨"java/util/List", "copyOf", "(Ljava/util/Collection;)Ljava/util/List;"⟩ : MethodName)) hown (mvT hZ (wT hw 166 rfl)) (mvT hZ (wT hw 167 rfl)) (mvT hZ (wT hw 168 rfl)) (mvT hZ (wT hw 169 rfl)) (by decide) (backOf (W := 1) (rmCo1 l Z a0 hw [] b ea ke x0 em h170 n0 Z194 F180 F181 F182 F183 F184 F189 O195 sE mr hM) hZ (wT hw 169 rfl) (wT hw 168 rfl) (by decide) (by decide)) (g := (mkF m 57 #[.val (.ref a), .val (.ref tp), .val (.ref b), .val (.ref g), .val (.ref a53), .val (.int (1 : Int32))] [(.ref b), (.ref a)])) rfl (by rw [hml]; rfl) (argsL := [(.ref b)]) (rest := [(.ref a)]) (lenOf own_h431 rfl) rfl (by show 2 * 0 + _ ≤ _; exact Nat.le_of_eq rfl) (hb hby own_h477) (fun _ _ => ⟨rfl, e172, own_l rfl, own_l rfl⟩)
 dsimp only [Pt.U, Pt.locs, Pt.cells, Pt.slots] at X201 l_204 y_205 z_206 st207 hQ203
 subst l_204 y_205 z_206
 obtain ⟨r209, rfl, N208, K215, F210, F211, F212, F213, F214, -⟩ := hQ203
 have N216 := Fr.app N175 N208
 have H0217 : h0.size ≤ r209 := Nat.le_trans P196.1 F214
 have F218 := F176.keep K215
 have F219 := F177.keep K215 nin0
 have F220 := F178.keep K215 nin0
 have F221 := F179.keep K215 nin0
 have F222 := F180.keep K215
 have F223 := F181.keep K215 nin0
 have F224 := F182.keep K215 nin0
 have F225 := F183.keep K215
 have F226 := F184.keep K215 nin0
 have F227 := F185.keep K215
 have F228 := F186.keep K215 nin0
 have F229 := F187.keep K215 nin0
 have F230 := F188.keep K215 nin0
 have F231 := F189.keep K215
 have F232 := F190.keep K215
 have F233 := F191.keep K215 nin0
 have F234 := F193.keep K215 nin0
 have Z235 : n0 ≤ T197.heap.size := Nat.le_trans Z194 K215.1
 have O236 := O195.keep K215 all0
 have P237 : Keep h0 T197.heap [a] := P196.trans K215 (fun _ q => nomatch q)
 have e238 : T197.heap = T197.heap := rfl
 have k14 : own_J p e below T197 m 60 #[.val (.ref a), .val (.ref tp), .val (.ref b), .val (.ref g), .val (.ref a53), .val (.int (1 : Int32))] [(.ref r209), (.ref a)] B_ := fun t_ hh => k13 t_ (st207 t_ hh)
 obtain ⟨T239, h240, X241, e242, W243, st244⟩ := putF X201 hx hZ hown (host := "") (Or.inl (wT hw 250 rfl)) Via.refl e238 F220 F218 (Or.inr ⟨(wT hw 251 rfl), rfl, hnm⟩) (wT hw 122 rfl) (ty := .object "java/util/List") (by decide) rfl rfl (g := (mkF m 60 #[.val (.ref a), .val (.ref tp), .val (.ref b), .val (.ref g), .val (.ref a53), .val (.int (1 : Int32))] [(.ref r209), (.ref a)])) rfl rfl (hb hby own_h478)
 have N245 := Fr.snoc X241 N216 f4_
 have F246 := Exa.wr W243 F218
 have F247 := Fld.other W243 F219 (Or.inr (slot_ne (Or.inr (wT hw 165 rfl)) (Or.inr (wT hw 251 rfl)) (by decide) (t := (.object "java/lang/String")) (t' := (.object "java/util/List")) (by decide) (by decide)))
 have F248 : Fld Z h240 a "com/example/level_slate/levelslate/TopicCandidates" "candidates" "Ljava/util/List;" (.ref r209) := Fld.same W243 F220
 have F249 := Fld.other W243 F221 (Or.inr (slot_ne (Or.inr (wT hw 253 rfl)) (Or.inr (wT hw 251 rfl)) (by decide) (t := (.array .double)) (t' := (.object "java/util/List")) (by decide) (by decide)))
 have F250 := Exa.wr W243 F222
 have F251 := Fld.other W243 F223 (Or.inl f18_)
 have F252 := Fld.other W243 F224 (Or.inl f18_)
 have F253 := Exa.wr W243 F225
 have F254 := F226.other W243 f19_
 have F255 := Exa.wr W243 F227
 have F256 := Fld.other W243 F228 (Or.inl f20_)
 have F257 := Fld.other W243 F229 (Or.inl f20_)
 have F258 := F230.other W243 f21_
 have F259 := Exa.wr W243 F231
 have F260 := Exa.wr W243 F232
 have F261 := Fld.other W243 F233 (Or.inl f22_)
 have F263 := F234.other W243 (Ne.symm ne140)
 have F264 := Exa.wr W243 F210
 have ne266 : a ≠ r209 := Nat.ne_of_lt (Nat.lt_of_lt_of_le F176.lt F214)
 have F265 := Fld.other W243 F211 (Or.inl (Ne.symm ne266))
 have F267 := Fld.other W243 F212 (Or.inl (Ne.symm ne266))
 have Z268 : n0 ≤ h240.size := W243.size ▸ Z235
 have O269 := O236.wr W243 f4_
 have P270 : Keep h0 h240 [a] := P237.wr W243 (Or.inl (List.mem_of_getElem? (i := 0) rfl))
 have k15 : own_J p e below T239 m 63 #[.val (.ref a), .val (.ref tp), .val (.ref b), .val (.ref g), .val (.ref a53), .val (.int (1 : Int32))] [] B_ := fun t_ hh => k14 t_ (st244 t_ hh)
 have k16 : own_J p e below T239 m 66 #[.val (.ref a), .val (.ref tp), .val (.ref b), .val (.ref g), .val (.ref a53), .val (.int (1 : Int32))] [(.ref a53), (.ref a)] B_ := fun t_ hh => k15 t_ (by
  refine XS.aloadN X241.here hx rfl (hb hby own_h479) rfl rfl ?_
  refine XS.aload X241.here hx rfl (hb hby own_h480) rfl rfl ?_
  exact hh)
 obtain ⟨T271, h272, X273, e274, W275, st276⟩ := putF X241 hx hZ hown (host := "") (Or.inl (wT hw 252 rfl)) Via.refl e242 F249 F246 (Or.inr ⟨(wT hw 253 rfl), rfl, hnm⟩) (wT hw 122 rfl) (ty := .array .double) (by decide) rfl rfl (g := (mkF m 66 #[.val (.ref a), .val (.ref tp), .val (.ref b), .val (.ref g), .val (.ref a53), .val (.int (1 : Int32))] [(.ref a53), (.ref a)])) rfl rfl (hb hby own_h481)
 have N277 := Fr.snoc X273 N245 f4_
 have F278 := Exa.wr W275 F246
 have F279 := Fld.other W275 F247 (Or.inr (slot_ne (Or.inr (wT hw 165 rfl)) (Or.inr (wT hw 253 rfl)) (by decide) (t := (.object "java/lang/String")) (t' := (.array .double)) (by decide) (by decide)))
 have F280 := Fld.other W275 F248 (Or.inr (slot_ne (Or.inr (wT hw 251 rfl)) (Or.inr (wT hw 253 rfl)) (by decide) (t := (.object "java/util/List")) (t' := (.array .double)) (by decide) (by decide)))
 have F281 : Fld Z h272 a "com/example/level_slate/levelslate/TopicCandidates" "runScores" "[D" (.ref a53) := Fld.same W275 F249
 have F282 := Exa.wr W275 F250
 have F283 := Fld.other W275 F251 (Or.inl f18_)
 have F284 := Fld.other W275 F252 (Or.inl f18_)
 have F285 := Exa.wr W275 F253
 have F286 := F254.other W275 f19_
 have F287 := Exa.wr W275 F255
 have F288 := Fld.other W275 F256 (Or.inl f20_)
 have F289 := Fld.other W275 F257 (Or.inl f20_)
 have F290 := F258.other W275 f21_
 have F291 := Exa.wr W275 F259
 have F292 := Exa.wr W275 F260
 have F293 := Fld.other W275 F261 (Or.inl f22_)
 have F295 := F263.other W275 (Ne.symm ne140)
 have F296 := Exa.wr W275 F264
 have F297 := Fld.other W275 F265 (Or.inl (Ne.symm ne266))
 have F298 := Fld.other W275 F267 (Or.inl (Ne.symm ne266))
 have Z299 : n0 ≤ h272.size := W275.size ▸ Z268
 have O300 := O269.wr W275 f4_
 have P301 : Keep h0 h272 [a] := P270.wr W275 (Or.inl (List.mem_of_getElem? (i := 0) rfl))
 have k17 : own_J p e below T271 m 69 #[.val (.ref a), .val (.ref tp), .val (.ref b), .val (.ref g), .val (.ref a53), .val (.int (1 : Int32))] [] B_ := fun t_ hh => k16 t_ (st276 t_ hh)
 obtain ⟨fs, hr, hrun, hended, hW, hsame⟩ := X273.leave (v := none) (fun _ => rfl)
 refine ⟨_, _, (own_from hB_ (k17 _ (X273.returnOut hx Bd.returns (hb hby own_h482) hr))), hrun, hended, _, _, rfl, ?_, ⟨_, rfl⟩, hW, hsame.mono (own_l rfl) (own_l rfl)⟩
 show Q_rmTC1 Z a tp b ea ke g f kf x0 d0 u0 em h0 n0 _ T271.heap _
 rw [e274]
 exact ⟨r209, rfl, N277, P301, F278, F280, F296, F297, F298, trivial⟩
def Q_rmTC2 (Z : State) (a : Addr) (tp : Addr) (b : Addr) (ea : Addr) (ke : ClassId) (g : Addr) (f : Addr) (kf : ClassId) (x0 : Addr) (x1 : Addr) (d0 : Addr) (d1 : Addr) (u0 : UInt64) (u1 : UInt64) (em : Addr) (h0 : Heap) (n0 : Nat) (v : Option Value) (h : Heap) (L : List Loc) : Prop := ∃ r : Addr, v = none ∧ Fr n0 L ∧ Keep h0 h [a] ∧ Exa Z h a "com/example/level_slate/levelslate/TopicCandidates" ∧ Fld Z h a "com/example/level_slate/levelslate/TopicCandidates" "candidates" "Ljava/util/List;" (.ref r) ∧ Exa Z h r "java/util/ImmutableCollections$List12" ∧ Fld Z h r "java/util/ImmutableCollections$List12" "e0" "Ljava/lang/Object;" (.ref x0) ∧ Fld Z h r "java/util/ImmutableCollections$List12" "e1" "Ljava/lang/Object;" (.ref x1) ∧ True
set_option maxRecDepth 65536 in
set_option maxHeartbeats 40000000 in
theorem rmTC2 (l : Launch) (Z : State) (a0 : Array Value) (hw : ∀ d ∈ tables_1, d.before a0 Z = true) (ws : List Jvm.Cond) (a : Addr) (tp : Addr) (b : Addr) (ea : Addr) (ke : ClassId) (g : Addr) (f : Addr) (kf : ClassId) (x0 : Addr) (x1 : Addr) (d0 : Addr) (d1 : Addr) (u0 : UInt64) (u1 : UInt64) (em : Addr) (h0 : Heap) (n0 : Nat) (Z0 : n0 ≤ h0.size) (f0_ : Exa Z h0 a "com/example/level_slate/levelslate/TopicCandidates") (f1_ : Fld Z h0 a "com/example/level_slate/levelslate/TopicCandidates" "topic" "Ljava/lang/String;" .null) (f2_ : Fld Z h0 a "com/example/level_slate/levelslate/TopicCandidates" "candidates" "Ljava/util/List;" .null) (f3_ : Fld Z h0 a "com/example/level_slate/levelslate/TopicCandidates" "runScores" "[D" .null) (f4_ : n0 ≤ a) (f5_ : Old Z n0 h0) (f6_ : Exa Z h0 b "java/util/ArrayList") (f7_ : Fld Z h0 b "java/util/ArrayList" "elementData" "[Ljava/lang/Object;" (.ref ea)) (f8_ : Fld Z h0 b "java/util/ArrayList" "size" "I" (.int (2 : Int32))) (f9_ : Exa Z h0 ea "[Ljava/lang/Object;") (f10_ : Arv Z h0 ea ke (.object "java/lang/Object") (10 : Int32) [(.ref x0), (.ref x1), .null, .null, .null, .null, .null, .null, .null, .null] .null) (f11_ : Exa Z h0 g "java/util/ArrayList") (f12_ : Fld Z h0 g "java/util/ArrayList" "elementData" "[Ljava/lang/Object;" (.ref f)) (f13_ : Fld Z h0 g "java/util/ArrayList" "size" "I" (.int (2 : Int32))) (f14_ : Arv Z h0 f kf (.object "java/lang/Object") (10 : Int32) [(.ref d0), (.ref d1), .null, .null, .null, .null, .null, .null, .null, .null] .null) (f15_ : Exa Z h0 x0 "java/lang/String") (f16_ : Exa Z h0 x1 "java/lang/String") (f17_ : Exa Z h0 d0 "java/lang/Double") (f18_ : Fld Z h0 d0 "java/lang/Double" "value" "D" (.double u0)) (f19_ : Exa Z h0 d1 "java/lang/Double") (f20_ : Fld Z h0 d1 "java/lang/Double" "value" "D" (.double u1)) (f21_ : b ≠ a) (f22_ : ea ≠ a) (f23_ : g ≠ a) (f24_ : f ≠ a) (f25_ : d0 ≠ a) (f26_ : d1 ≠ a) (sE : Sta Z Z.heap "java/util/ImmutableCollections" "EMPTY" "Ljava/lang/Object;" (.ref em)) (mr : Addr) (hM : own_Mir Z "[Ljava/lang/Object;" mr) :
    own_Met l (⟨"com/example/level_slate/levelslate/TopicCandidates", "<init>", "(Ljava/lang/String;Ljava/util/List;Ljava/util/List;)V"⟩ : MethodName) prog_14_method_1_code 6 none ws (rO 8 3 6 106) #[(.ref a), (.ref tp), (.ref b), (.ref g)] Z h0 (Q_rmTC2 Z a tp b ea ke g f kf x0 x1 d0 d1 u0 u1 em h0 n0) := by
 refine MetFree.of_bodySF (plainFor_of_name own_h447) hisR ?_
 intro p e s m args below meth c s₁ Bd hml0 hP hK
 obtain ⟨rfl, hZ, hh⟩ := hP
 have hx := Bd.exec
 have hby := Bd.bytes
 have hml : c.maxLocals = 6 := hml0
 have hown : s.vm.findClass "com/example/level_slate/levelslate/TopicCandidates" = some m.cls := findClass_of_methodNamed Bd.named
 have hnm := (name_of_methodNamed Bd.named Bd.method).1
 have X0 : Stand p l e (rO 8 3 6 106) s m #[(.ref a), (.ref tp), (.ref b), (.ref g)] below meth c s₁ [] 0 0 := Stand.of_body Bd
 have e0 : s₁.heap = h0 := by rw [← hh, Bd.state]; rfl
 have N0 := Fr.nil n0
 obtain ⟨B_, hB_⟩ : ∃ z, z = s₁.setTop (entryFrame m #[(.ref a), (.ref tp), (.ref b), (.ref g)] 6) := ⟨_, rfl⟩
 have k0 : own_K p e below (s₁.setTop (mkF m 0 #[.val (.ref a), .val (.ref tp), .val (.ref b), .val (.ref g), .unset, .unset] [])) B_ := by rw [hB_]; exact fun t k => castTop (by clear k; first | (simp [entryFrame, mkF, argsToLocals, Value.category, maxLocals]; done) | rfl) k
 have K0 : Keep h0 h0 [a] := Keep.refl _ _
 have k1 : own_J p e below s₁ m 1 #[.val (.ref a), .val (.ref tp), .val (.ref b), .val (.ref g), .unset, .unset] [(.ref a)] B_ := fun t_ hh => k0 t_ (by
  refine XS.aloadN X0.here hx rfl (hb hby own_h448) rfl rfl ?_
  exact hh)
 obtain ⟨T21, X22, e23, st24⟩ := initO X0 hx hZ hown (wT hw 127 rfl) (wT hw 17 rfl) (wT hw 18 rfl) e0 (g := (mkF m 1 #[.val (.ref a), .val (.ref tp), .val (.ref b), .val (.ref g), .unset, .unset] [(.ref a)])) rfl (by rw [hml]; rfl) rfl (hb hby own_h449) (by decide) (W := 0) (by show 2 * 0 + _ ≤ _; exact Nat.le_of_eq rfl) (by decide)
 have k2 : own_J p e below T21 m 4 #[.val (.ref a), .val (.ref tp), .val (.ref b), .val (.ref g), .unset, .unset] [] B_ := fun t_ hh => k1 t_ (st24 t_ hh)
 have k3 : own_J p e below T21 m 5 #[.val (.ref a), .val (.ref tp), .val (.ref b), .val (.ref g), .unset, .unset] [(.ref b)] B_ := fun t_ hh => k2 t_ (by
  refine XS.aloadN X22.here hx rfl (hb hby own_h450) rfl rfl ?_
  exact hh)
 obtain ⟨cq36, kq37, qa38, qb39, qc40⟩ := isOf hZ e23 f6_
 obtain ⟨_, _, ⟨T25, L26, k_27, n_28⟩, -, X29, ⟨Lc30, hQ31, l_32, y_33, z_34⟩, st35⟩ := X22.interfaceBack hx (xi := (⟨"java/util/List", "size", "()I"⟩ : MethodName)) (y := (⟨"java/util/ArrayList", "size", "()I"⟩ : MethodName)) hown (mvT hZ (wT hw 128 rfl)) (mvT hZ (wT hw 129 rfl)) (mvT hZ (wT hw 130 rfl)) (mvT hZ (wT hw 131 rfl)) (mvT hZ (wT hw 132 rfl)) (mvT hZ (wT hw 133 rfl)) (mvT hZ (wT hw 134 rfl)) (mvT hZ (wT hw 58 rfl)) (by decide) (backOf (W := 0) (rmSz l Z a0 hw [] b (2 : Int32) h0 n0 Z0 f8_ ) hZ (wT hw 135 rfl) (wT hw 29 rfl) (by decide) (by decide)) qa38 qb39 qc40 (g := (mkF m 5 #[.val (.ref a), .val (.ref tp), .val (.ref b), .val (.ref g), .unset, .unset] [(.ref b)])) rfl (by rw [hml]; rfl) (Steps.refl _) (argsL := []) (rest := []) (lenOf own_h452 rfl) rfl (by show 2 * 0 + _ ≤ _; exact Nat.le_of_eq rfl) (hb hby own_h451) (fun _ _ => ⟨rfl, e23, own_l rfl, own_l rfl⟩)
 dsimp only [Pt.U, Pt.locs, Pt.cells, Pt.slots] at X29 l_32 y_33 z_34 st35 hQ31
 subst l_32 y_33 z_34
 obtain ⟨rfl, N41, e42⟩ := hQ31
 have N43 := Fr.app N0 N41
 have k4 : own_J p e below T25 m 10 #[.val (.ref a), .val (.ref tp), .val (.ref b), .val (.ref g), .unset, .unset] [(.int (2 : Int32))] B_ := fun t_ hh => k3 t_ (st35.trans hh)
 obtain ⟨T44, h45, kA46, X47, e48, E49, A50, st52⟩ := newP X29 hx hZ (wT hw 136 rfl) e42 (g := (mkF m 10 #[.val (.ref a), .val (.ref tp), .val (.ref b), .val (.ref g), .unset, .unset] [(.int (2 : Int32))])) rfl (hb hby own_h453) rfl (by decide) (cap := 2) (by decide) (by decide) (by decide) (by decide)
 obtain ⟨a53, g54⟩ : ∃ z, z = h0.size := ⟨_, rfl⟩
 rw [← g54] at A50 st52
 have H055 : h0.size ≤ a53 := Nat.le_trans K0.1 (Nat.le_of_eq g54.symm)
 have G56 : n0 ≤ a53 := Nat.le_trans Z0 (Nat.le_of_eq g54.symm)
 have F57 := Exa.ext (h' := h45) E49 f0_
 have F58 := Fld.ext (h' := h45) E49 f1_
 have F59 := Fld.ext (h' := h45) E49 f2_
 have F60 := Fld.ext (h' := h45) E49 f3_
 have F61 := Exa.ext (h' := h45) E49 f6_
 have F62 := Fld.ext (h' := h45) E49 f7_
 have F63 := Fld.ext (h' := h45) E49 f8_
 have F64 := Exa.ext (h' := h45) E49 f9_
 have F65 := f10_.ext E49
 have F66 := Exa.ext (h' := h45) E49 f11_
 have F67 := Fld.ext (h' := h45) E49 f12_
 have F68 := Fld.ext (h' := h45) E49 f13_
 have F69 := f14_.ext E49
 have F70 := Exa.ext (h' := h45) E49 f15_
 have F71 := Exa.ext (h' := h45) E49 f16_
 have F72 := Exa.ext (h' := h45) E49 f17_
 have F73 := Fld.ext (h' := h45) E49 f18_
 have F74 := Exa.ext (h' := h45) E49 f19_
 have F75 := Fld.ext (h' := h45) E49 f20_
 have Z76 : n0 ≤ h45.size := Nat.le_trans Z0 E49.1
 have O77 := f5_.ext E49
 have P78 : Keep h0 h45 [a] := K0.ext E49
 have V79 : Arv Z h45 a53 kA46 .double (2 : Int32) [(.double (0 : UInt64)), (.double (0 : UInt64))] (.double (0 : UInt64)) := Arv.pad (Arv.new A50 (by decide)) (pad_rep [] (.double (0 : UInt64)) 2)
 have k5 : own_J p e below T44 m 12 #[.val (.ref a), .val (.ref tp), .val (.ref b), .val (.ref g), .unset, .unset] [(.ref a53)] B_ := fun t_ hh => k4 t_ (st52 t_ hh)
 obtain ⟨cl80, Ar81, -, S82, Ng83, -, -⟩ := id V79
 have k6 : own_J p e below T44 m 32 #[.val (.ref a), .val (.ref tp), .val (.ref b), .val (.ref g), .val (.ref a53), .val (.int (0 : Int32))] [(.int (0 : Int32)), (.ref g), (.int (0 : Int32)), (.ref a53)] B_ := fun t_ hh => k5 t_ (by
  refine XS.astore X47.here hx rfl (hb hby own_h454) rfl rfl (l' := #[.val (.ref a), .val (.ref tp), .val (.ref b), .val (.ref g), .val (.ref a53), .unset]) rfl ?_
  refine XS.iconst X47.here hx rfl (hb hby own_h455) ?_
  refine XS.istore X47.here hx rfl (hb hby own_h456) rfl (l' := #[.val (.ref a), .val (.ref tp), .val (.ref b), .val (.ref g), .val (.ref a53), .val (.int (0 : Int32))]) rfl ?_
  refine XS.iload X47.here hx rfl (hb hby own_h457) rfl ?_
  refine XS.aload X47.here hx rfl (hb hby own_h458) rfl rfl ?_
  refine X47.arraylength hx (by rw [e48]; exact Ar81.1) (State.isArrayOf_alike hZ.alike Ar81.2.1) (g := (mkF m 21 #[.val (.ref a), .val (.ref tp), .val (.ref b), .val (.ref g), .val (.ref a53), .val (.int (0 : Int32))] [(.ref a53), (.int (0 : Int32))])) rfl rfl (hb hby own_h459) _ ?_
  rw [len_of S82 Ng83]
  refine XS.icmpNo X47.here hx rfl (hb hby own_h460) rfl (by decide) ?_
  refine XS.aload X47.here hx rfl (hb hby own_h461) rfl rfl ?_
  refine XS.iload X47.here hx rfl (hb hby own_h462) rfl ?_
  refine XS.aloadN X47.here hx rfl (hb hby own_h463) rfl rfl ?_
  refine XS.iload X47.here hx rfl (hb hby own_h464) rfl ?_
  exact hh)
 obtain ⟨cq95, kq96, qa97, qb98, qc99⟩ := isOf hZ e48 F66
 obtain ⟨_, _, ⟨T84, L85, k_86, n_87⟩, -, X88, ⟨Lc89, hQ90, l_91, y_92, z_93⟩, st94⟩ := X47.interfaceBack hx (xi := (⟨"java/util/List", "get", "(I)Ljava/lang/Object;"⟩ : MethodName)) (y := (⟨"java/util/ArrayList", "get", "(I)Ljava/lang/Object;"⟩ : MethodName)) hown (mvT hZ (wT hw 137 rfl)) (mvT hZ (wT hw 138 rfl)) (mvT hZ (wT hw 139 rfl)) (mvT hZ (wT hw 140 rfl)) (mvT hZ (wT hw 141 rfl)) (mvT hZ (wT hw 142 rfl)) (mvT hZ (wT hw 143 rfl)) (mvT hZ (wT hw 58 rfl)) (by decide) (backOf (W := 2) (rmGet0 l Z a0 hw [] g f kf d0 ([(.ref d0), (.ref d1), .null, .null, .null, .null, .null, .null, .null, .null]) (2 : Int32) h45 n0 Z76 F66 F68 (by decide) F67 F69 rfl ) hZ (wT hw 144 rfl) (wT hw 29 rfl) (by decide) (by decide)) qa97 qb98 qc99 (g := (mkF m 32 #[.val (.ref a), .val (.ref tp), .val (.ref b), .val (.ref g), .val (.ref a53), .val (.int (0 : Int32))] [(.int (0 : Int32)), (.ref g), (.int (0 : Int32)), (.ref a53)])) rfl (by rw [hml]; rfl) (Steps.refl _) (argsL := [(.int (0 : Int32))]) (rest := [(.int (0 : Int32)), (.ref a53)]) (lenOf own_h297 rfl) rfl (by show 2 * 0 + _ ≤ _; exact Nat.le_of_eq rfl) (hb hby own_h465) (fun _ _ => ⟨rfl, e48, own_l rfl, own_l rfl⟩)
 dsimp only [Pt.U, Pt.locs, Pt.cells, Pt.slots] at X88 l_91 y_92 z_93 st94 hQ90
 subst l_91 y_92 z_93
 obtain ⟨rfl, N100, e101⟩ := hQ90
 have N102 := Fr.app N43 N100
 have k7 : own_J p e below T84 m 37 #[.val (.ref a), .val (.ref tp), .val (.ref b), .val (.ref g), .val (.ref a53), .val (.int (0 : Int32))] [(.ref d0), (.int (0 : Int32)), (.ref a53)] B_ := fun t_ hh => k6 t_ (st94.trans hh)
 obtain ⟨T103, X104, e105, st106⟩ := castY X88 hx hZ hown (wT hw 158 rfl) e101 (Ins.self F72) (g := (mkF m 37 #[.val (.ref a), .val (.ref tp), .val (.ref b), .val (.ref g), .val (.ref a53), .val (.int (0 : Int32))] [(.ref d0), (.int (0 : Int32)), (.ref a53)])) rfl rfl (hb hby own_h466)
 have k8 : own_J p e below T103 m 40 #[.val (.ref a), .val (.ref tp), .val (.ref b), .val (.ref g), .val (.ref a53), .val (.int (0 : Int32))] [(.ref d0), (.int (0 : Int32)), (.ref a53)] B_ := fun t_ hh => k7 t_ (st106 t_ hh)
 obtain ⟨cq118, kq119, qa120, qb121, qc122⟩ := isOf hZ e105 F72
 obtain ⟨_, _, ⟨T107, L108, k_109, n_110⟩, -, X111, ⟨Lc112, hQ113, l_114, y_115, z_116⟩, st117⟩ := X104.virtualBack hx (y := (⟨"java/lang/Double", "doubleValue", "()D"⟩ : MethodName)) (z := (⟨"java/lang/Double", "doubleValue", "()D"⟩ : MethodName)) hown (mvT hZ (wT hw 159 rfl)) (mvT hZ (wT hw 160 rfl)) (notFace_of_selects (args := #[]) (mvT hZ (wT hw 162 rfl))) (mvT hZ (wT hw 162 rfl)) (mvT hZ (wT hw 161 rfl)) (by decide) (backOf (W := 2) (rmDd l Z a0 hw [] d0 u0 h45 n0 Z76 F73 ) hZ (wT hw 163 rfl) (wT hw 88 rfl) (by decide) (by decide)) qa120 qc122 (g := (mkF m 40 #[.val (.ref a), .val (.ref tp), .val (.ref b), .val (.ref g), .val (.ref a53), .val (.int (0 : Int32))] [(.ref d0), (.int (0 : Int32)), (.ref a53)])) rfl (by rw [hml]; rfl) (Steps.refl _) (argsL := []) (rest := [(.int (0 : Int32)), (.ref a53)]) (lenOf own_h468 rfl) rfl (by show 2 * 0 + _ ≤ _; exact Nat.le_of_eq rfl) (hb hby own_h467) (fun _ _ => ⟨rfl, e105, own_l rfl, own_l rfl⟩)
 dsimp only [Pt.U, Pt.locs, Pt.cells, Pt.slots] at X111 l_114 y_115 z_116 st117 hQ113
 subst l_114 y_115 z_116
 obtain ⟨rfl, N123, e124⟩ := hQ113
 have N125 := Fr.app N102 N123
 have k9 : own_J p e below T107 m 43 #[.val (.ref a), .val (.ref tp), .val (.ref b), .val (.ref g), .val (.ref a53), .val (.int (0 : Int32))] [(.double u0), (.int (0 : Int32)), (.ref a53)] B_ := fun t_ hh => k8 t_ (st117.trans hh)
 obtain ⟨cl126, Ar127, q128, S129, Ng130, H131, Gf132⟩ := id V79
 have hin133 := inb_of (j := (0 : Int32)) S129 (by decide)
 obtain ⟨T134, h135, X136, e137, W138, st139⟩ := stD X111 hx hZ e124 Ar127 (j := (0 : Int32)) hin133 (g := (mkF m 43 #[.val (.ref a), .val (.ref tp), .val (.ref b), .val (.ref g), .val (.ref a53), .val (.int (0 : Int32))] [(.double u0), (.int (0 : Int32)), (.ref a53)])) rfl rfl (hb hby own_h469)
 have N140 := Fr.snoc X136 N125 G56
 have F141 := Exa.wr W138 F57
 have ne143 : a ≠ a53 := by rw [g54]; exact Nat.ne_of_lt f0_.lt
 have F142 := Fld.other W138 F58 (Or.inl ne143)
 have F144 := Fld.other W138 F59 (Or.inl ne143)
 have F145 := Fld.other W138 F60 (Or.inl ne143)
 have F146 := Exa.wr W138 F61
 have ne148 : b ≠ a53 := by rw [g54]; exact Nat.ne_of_lt f6_.lt
 have F147 := Fld.other W138 F62 (Or.inl ne148)
 have F149 := Fld.other W138 F63 (Or.inl ne148)
 have F150 := Exa.wr W138 F64
 have ne152 : ea ≠ a53 := by rw [g54]; exact Nat.ne_of_lt f9_.lt
 have F151 := F65.other W138 ne152
 have F153 := Exa.wr W138 F66
 have ne155 : g ≠ a53 := by rw [g54]; exact Nat.ne_of_lt f11_.lt
 have F154 := Fld.other W138 F67 (Or.inl ne155)
 have F156 := Fld.other W138 F68 (Or.inl ne155)
 have ne158 : f ≠ a53 := by rw [g54]; exact Nat.ne_of_lt f14_.lt
 have F157 := F69.other W138 ne158
 have F159 := Exa.wr W138 F70
 have F160 := Exa.wr W138 F71
 have F161 := Exa.wr W138 F72
 have ne163 : d0 ≠ a53 := by rw [g54]; exact Nat.ne_of_lt f17_.lt
 have F162 := Fld.other W138 F73 (Or.inl ne163)
 have F164 := Exa.wr W138 F74
 have ne166 : d1 ≠ a53 := by rw [g54]; exact Nat.ne_of_lt f19_.lt
 have F165 := Fld.other W138 F75 (Or.inl ne166)
 have Z168 : n0 ≤ h135.size := W138.size ▸ Z76
 have O169 := O77.wr W138 G56
 have P170 : Keep h0 h135 [a] := P78.wr W138 (Or.inr H055)
 have V171 : Arv Z h135 a53 kA46 .double (2 : Int32) [(.double u0), (.double (0 : UInt64))] (.double (0 : UInt64)) := Arv.set Ar127 q128 S129 Ng130 H131 Gf132 rfl W138 0 rfl (own_lt rfl)
 have k10 : own_J p e below T134 m 44 #[.val (.ref a), .val (.ref tp), .val (.ref b), .val (.ref g), .val (.ref a53), .val (.int (0 : Int32))] [] B_ := fun t_ hh => k9 t_ (st139 t_ hh)
 obtain ⟨cl172, Ar173, -, S174, Ng175, -, -⟩ := id V171
 have k11 : own_J p e below T134 m 32 #[.val (.ref a), .val (.ref tp), .val (.ref b), .val (.ref g), .val (.ref a53), .val (.int (1 : Int32))] [(.int (1 : Int32)), (.ref g), (.int (1 : Int32)), (.ref a53)] B_ := fun t_ hh => k10 t_ (by
  refine XS.iinc X136.here hx rfl (hb hby own_h470) rfl (l' := #[.val (.ref a), .val (.ref tp), .val (.ref b), .val (.ref g), .val (.ref a53), .val (.int (1 : Int32))]) rfl ?_
  refine XS.goto X136.here hx rfl (pc0 := 47) (pc' := 17) rfl (hb hby own_h471) (by decide) (by decide) ?_
  refine XS.iload X136.here hx rfl (hb hby own_h457) rfl ?_
  refine XS.aload X136.here hx rfl (hb hby own_h458) rfl rfl ?_
  refine X136.arraylength hx (by rw [e137]; exact Ar173.1) (State.isArrayOf_alike hZ.alike Ar173.2.1) (g := (mkF m 21 #[.val (.ref a), .val (.ref tp), .val (.ref b), .val (.ref g), .val (.ref a53), .val (.int (1 : Int32))] [(.ref a53), (.int (1 : Int32))])) rfl rfl (hb hby own_h459) _ ?_
  rw [len_of S174 Ng175]
  refine XS.icmpNo X136.here hx rfl (hb hby own_h460) rfl (by decide) ?_
  refine XS.aload X136.here hx rfl (hb hby own_h461) rfl rfl ?_
  refine XS.iload X136.here hx rfl (hb hby own_h462) rfl ?_
  refine XS.aloadN X136.here hx rfl (hb hby own_h463) rfl rfl ?_
  refine XS.iload X136.here hx rfl (hb hby own_h464) rfl ?_
  exact hh)
 obtain ⟨cq187, kq188, qa189, qb190, qc191⟩ := isOf hZ e137 F153
 obtain ⟨_, _, ⟨T176, L177, k_178, n_179⟩, -, X180, ⟨Lc181, hQ182, l_183, y_184, z_185⟩, st186⟩ := X136.interfaceBack hx (xi := (⟨"java/util/List", "get", "(I)Ljava/lang/Object;"⟩ : MethodName)) (y := (⟨"java/util/ArrayList", "get", "(I)Ljava/lang/Object;"⟩ : MethodName)) hown (mvT hZ (wT hw 137 rfl)) (mvT hZ (wT hw 138 rfl)) (mvT hZ (wT hw 139 rfl)) (mvT hZ (wT hw 140 rfl)) (mvT hZ (wT hw 141 rfl)) (mvT hZ (wT hw 142 rfl)) (mvT hZ (wT hw 143 rfl)) (mvT hZ (wT hw 58 rfl)) (by decide) (backOf (W := 2) (rmGet1 l Z a0 hw [] g f kf d1 ([(.ref d0), (.ref d1), .null, .null, .null, .null, .null, .null, .null, .null]) (2 : Int32) h135 n0 Z168 F153 F156 (by decide) F154 F157 rfl ) hZ (wT hw 144 rfl) (wT hw 29 rfl) (by decide) (by decide)) qa189 qb190 qc191 (g := (mkF m 32 #[.val (.ref a), .val (.ref tp), .val (.ref b), .val (.ref g), .val (.ref a53), .val (.int (1 : Int32))] [(.int (1 : Int32)), (.ref g), (.int (1 : Int32)), (.ref a53)])) rfl (by rw [hml]; rfl) (Steps.refl _) (argsL := [(.int (1 : Int32))]) (rest := [(.int (1 : Int32)), (.ref a53)]) (lenOf own_h297 rfl) rfl (by show 2 * 0 + _ ≤ _; exact Nat.le_of_eq rfl) (hb hby own_h465) (fun _ _ => ⟨rfl, e137, own_l rfl, own_l rfl⟩)
 dsimp only [Pt.U, Pt.locs, Pt.cells, Pt.slots] at X180 l_183 y_184 z_185 st186 hQ182
 subst l_183 y_184 z_185
 obtain ⟨rfl, N192, e193⟩ := hQ182
 have N194 := Fr.app N140 N192
 have k12 : own_J p e below T176 m 37 #[.val (.ref a), .val (.ref tp), .val (.ref b), .val (.ref g), .val (.ref a53), .val (.int (1 : Int32))] [(.ref d1), (.int (1 : Int32)), (.ref a53)] B_ := fun t_ hh => k11 t_ (st186.trans hh)
 obtain ⟨T195, X196, e197, st198⟩ := castY X180 hx hZ hown (wT hw 158 rfl) e193 (Ins.self F164) (g := (mkF m 37 #[.val (.ref a), .val (.ref tp), .val (.ref b), .val (.ref g), .val (.ref a53), .val (.int (1 : Int32))] [(.ref d1), (.int (1 : Int32)), (.ref a53)])) rfl rfl (hb hby own_h466)
 have k13 : own_J p e below T195 m 40 #[.val (.ref a), .val (.ref tp), .val (.ref b), .val (.ref g), .val (.ref a53), .val (.int (1 : Int32))] [(.ref d1), (.int (1 : Int32)), (.ref a53)] B_ := fun t_ hh => k12 t_ (st198 t_ hh)
 obtain ⟨cq210, kq211, qa212, qb213, qc214⟩ := isOf hZ e197 F164
 obtain ⟨_, _, ⟨T199, L200, k_201, n_202⟩, -, X203, ⟨Lc204, hQ205, l_206, y_207, z_208⟩, st209⟩ := X196.virtualBack hx (y := (⟨"java/lang/Double", "doubleValue", "()D"⟩ : MethodName)) (z := (⟨"java/lang/Double", "doubleValue", "()D"⟩ : MethodName)) hown (mvT hZ (wT hw 159 rfl)) (mvT hZ (wT hw 160 rfl)) (notFace_of_selects (args := #[]) (mvT hZ (wT hw 162 rfl))) (mvT hZ (wT hw 162 rfl)) (mvT hZ (wT hw 161 rfl)) (by decide) (backOf (W := 2) (rmDd l Z a0 hw [] d1 u1 h135 n0 Z168 F165 ) hZ (wT hw 163 rfl) (wT hw 88 rfl) (by decide) (by decide)) qa212 qc214 (g := (mkF m 40 #[.val (.ref a), .val (.ref tp), .val (.ref b), .val (.ref g), .val (.ref a53), .val (.int (1 : Int32))] [(.ref d1), (.int (1 : Int32)), (.ref a53)])) rfl (by rw [hml]; rfl) (Steps.refl _) (argsL := []) (rest := [(.int (1 : Int32)), (.ref a53)]) (lenOf own_h468 rfl) rfl (by show 2 * 0 + _ ≤ _; exact Nat.le_of_eq rfl) (hb hby own_h467) (fun _ _ => ⟨rfl, e197, own_l rfl, own_l rfl⟩)
 dsimp only [Pt.U, Pt.locs, Pt.cells, Pt.slots] at X203 l_206 y_207 z_208 st209 hQ205
 subst l_206 y_207 z_208
 obtain ⟨rfl, N215, e216⟩ := hQ205
 have N217 := Fr.app N194 N215
 have k14 : own_J p e below T199 m 43 #[.val (.ref a), .val (.ref tp), .val (.ref b), .val (.ref g), .val (.ref a53), .val (.int (1 : Int32))] [(.double u1), (.int (1 : Int32)), (.ref a53)] B_ := fun t_ hh => k13 t_ (st209.trans hh)
 obtain ⟨cl218, Ar219, q220, S221, Ng222, H223, Gf224⟩ := id V171
 have hin225 := inb_of (j := (1 : Int32)) S221 (by decide)
 obtain ⟨T226, h227, X228, e229, W230, st231⟩ := stD X203 hx hZ e216 Ar219 (j := (1 : Int32)) hin225 (g := (mkF m 43 #[.val (.ref a), .val (.ref tp), .val (.ref b), .val (.ref g), .val (.ref a53), .val (.int (1 : Int32))] [(.double u1), (.int (1 : Int32)), (.ref a53)])) rfl rfl (hb hby own_h469)
 have N232 := Fr.snoc X228 N217 G56
 have F233 := Exa.wr W230 F141
 have F234 := Fld.other W230 F142 (Or.inl ne143)
 have F235 := Fld.other W230 F144 (Or.inl ne143)
 have F236 := Fld.other W230 F145 (Or.inl ne143)
 have F237 := Exa.wr W230 F146
 have F238 := Fld.other W230 F147 (Or.inl ne148)
 have F239 := Fld.other W230 F149 (Or.inl ne148)
 have F240 := Exa.wr W230 F150
 have F241 := F151.other W230 ne152
 have F242 := Exa.wr W230 F153
 have F243 := Fld.other W230 F154 (Or.inl ne155)
 have F244 := Fld.other W230 F156 (Or.inl ne155)
 have F245 := F157.other W230 ne158
 have F246 := Exa.wr W230 F159
 have F247 := Exa.wr W230 F160
 have F248 := Exa.wr W230 F161
 have F249 := Fld.other W230 F162 (Or.inl ne163)
 have F250 := Exa.wr W230 F164
 have F251 := Fld.other W230 F165 (Or.inl ne166)
 have Z253 : n0 ≤ h227.size := W230.size ▸ Z168
 have O254 := O169.wr W230 G56
 have P255 : Keep h0 h227 [a] := P170.wr W230 (Or.inr H055)
 have V256 : Arv Z h227 a53 kA46 .double (2 : Int32) [(.double u0), (.double u1)] (.double (0 : UInt64)) := Arv.set Ar219 q220 S221 Ng222 H223 Gf224 rfl W230 1 rfl (own_lt rfl)
 have k15 : own_J p e below T226 m 44 #[.val (.ref a), .val (.ref tp), .val (.ref b), .val (.ref g), .val (.ref a53), .val (.int (1 : Int32))] [] B_ := fun t_ hh => k14 t_ (st231 t_ hh)
 obtain ⟨cl257, Ar258, -, S259, Ng260, -, -⟩ := id V256
 have k16 : own_J p e below T226 m 52 #[.val (.ref a), .val (.ref tp), .val (.ref b), .val (.ref g), .val (.ref a53), .val (.int (2 : Int32))] [(.ref tp), (.ref a)] B_ := fun t_ hh => k15 t_ (by
  refine XS.iinc X228.here hx rfl (hb hby own_h470) rfl (l' := #[.val (.ref a), .val (.ref tp), .val (.ref b), .val (.ref g), .val (.ref a53), .val (.int (2 : Int32))]) rfl ?_
  refine XS.goto X228.here hx rfl (pc0 := 47) (pc' := 17) rfl (hb hby own_h471) (by decide) (by decide) ?_
  refine XS.iload X228.here hx rfl (hb hby own_h457) rfl ?_
  refine XS.aload X228.here hx rfl (hb hby own_h458) rfl rfl ?_
  refine X228.arraylength hx (by rw [e229]; exact Ar258.1) (State.isArrayOf_alike hZ.alike Ar258.2.1) (g := (mkF m 21 #[.val (.ref a), .val (.ref tp), .val (.ref b), .val (.ref g), .val (.ref a53), .val (.int (2 : Int32))] [(.ref a53), (.int (2 : Int32))])) rfl rfl (hb hby own_h459) _ ?_
  rw [len_of S259 Ng260]
  refine XS.icmpYes X228.here hx rfl (pc0 := 22) (pc' := 50) rfl (hb hby own_h460) rfl (by decide) (by decide) (by decide) ?_
  refine XS.aloadN X228.here hx rfl (hb hby own_h472) rfl rfl ?_
  refine XS.aloadN X228.here hx rfl (hb hby own_h473) rfl rfl ?_
  exact hh)
 obtain ⟨T261, h262, X263, e264, W265, st266⟩ := putF X228 hx hZ hown (host := "") (Or.inl (wT hw 164 rfl)) Via.refl e229 F234 F233 (Or.inr ⟨(wT hw 165 rfl), rfl, hnm⟩) (wT hw 122 rfl) (ty := .object "java/lang/String") (by decide) rfl rfl (g := (mkF m 52 #[.val (.ref a), .val (.ref tp), .val (.ref b), .val (.ref g), .val (.ref a53), .val (.int (2 : Int32))] [(.ref tp), (.ref a)])) rfl rfl (hb hby own_h474)
 have N267 := Fr.snoc X263 N232 f4_
 have F268 := Exa.wr W265 F233
 have F269 : Fld Z h262 a "com/example/level_slate/levelslate/TopicCandidates" "topic" "Ljava/lang/String;" (.ref tp) := Fld.same W265 F234
 have F270 := Fld.other W265 F235 (Or.inr (slot_ne (Or.inr (wT hw 251 rfl)) (Or.inr (wT hw 165 rfl)) (by decide) (t := (.object "java/util/List")) (t' := (.object "java/lang/String")) (by decide) (by decide)))
 have F271 := Fld.other W265 F236 (Or.inr (slot_ne (Or.inr (wT hw 253 rfl)) (Or.inr (wT hw 165 rfl)) (by decide) (t := (.array .double)) (t' := (.object "java/lang/String")) (by decide) (by decide)))
 have F272 := Exa.wr W265 F237
 have F273 := Fld.other W265 F238 (Or.inl f21_)
 have F274 := Fld.other W265 F239 (Or.inl f21_)
 have F275 := Exa.wr W265 F240
 have F276 := F241.other W265 f22_
 have F277 := Exa.wr W265 F242
 have F278 := Fld.other W265 F243 (Or.inl f23_)
 have F279 := Fld.other W265 F244 (Or.inl f23_)
 have F280 := F245.other W265 f24_
 have F281 := Exa.wr W265 F246
 have F282 := Exa.wr W265 F247
 have F283 := Exa.wr W265 F248
 have F284 := Fld.other W265 F249 (Or.inl f25_)
 have F285 := Exa.wr W265 F250
 have F286 := Fld.other W265 F251 (Or.inl f26_)
 have F288 := V256.other W265 (Ne.symm ne143)
 have Z289 : n0 ≤ h262.size := W265.size ▸ Z253
 have O290 := O254.wr W265 f4_
 have P291 : Keep h0 h262 [a] := P255.wr W265 (Or.inl (List.mem_of_getElem? (i := 0) rfl))
 have k17 : own_J p e below T261 m 55 #[.val (.ref a), .val (.ref tp), .val (.ref b), .val (.ref g), .val (.ref a53), .val (.int (2 : Int32))] [] B_ := fun t_ hh => k16 t_ (st266 t_ hh)
 have k18 : own_J p e below T261 m 57 #[.val (.ref a), .val (.ref tp), .val (.ref b), .val (.ref g), .val (.ref a53), .val (.int (2 : Int32))] [(.ref b), (.ref a)] B_ := fun t_ hh => k17 t_ (by
  refine XS.aloadN X263.here hx rfl (hb hby own_h475) rfl rfl ?_
  refine XS.aloadN X263.here hx rfl (hb hby own_h476) rfl rfl ?_
  exact hh)
 obtain ⟨_, _, ⟨T292, L293, k_294, n_295⟩, -, X296, ⟨Lc297, hQ298, l_299, y_300, z_301⟩, st302⟩ := Jvm.LawKit.callS X263 hx (y := (⟨"java/util/List", "copyOf", "(Ljava/util/Collection;)Ljava/util/List;"⟩ : MethodName)) hown (mvT hZ (wT hw 166 rfl)) (mvT hZ (wT hw 167 rfl)) (mvT hZ (wT hw 168 rfl)) (mvT hZ (wT hw 169 rfl)) (by decide) (backOf (W := 1) (rmCo2 l Z a0 hw [] b ea ke x0 x1 em h262 n0 Z289 F272 F273 F274 F275 F276 F281 F282 O290 sE mr hM) hZ (wT hw 169 rfl) (wT hw 168 rfl) (by decide) (by decide)) (g := (mkF m 57 #[.val (.ref a), .val (.ref tp), .val (.ref b), .val (.ref g), .val (.ref a53), .val (.int (2 : Int32))] [(.ref b), (.ref a)])) rfl (by rw [hml]; rfl) (argsL := [(.ref b)]) (rest := [(.ref a)]) (lenOf own_h431 rfl) rfl (by show 2 * 0 + _ ≤ _; exact Nat.le_of_eq rfl) (hb hby own_h477) (fun _ _ => ⟨rfl, e264, own_l rfl, own_l rfl⟩)
 dsimp only [Pt.U, Pt.locs, Pt.cells, Pt.slots] at X296 l_299 y_300 z_301 st302 hQ298
 subst l_299 y_300 z_301
 obtain ⟨r304, rfl, N303, K310, F305, F306, F307, F308, F309, -⟩ := hQ298
 have N311 := Fr.app N267 N303
 have H0312 : h0.size ≤ r304 := Nat.le_trans P291.1 F309
 have F313 := F268.keep K310
 have F314 := F269.keep K310 nin0
 have F315 := F270.keep K310 nin0
 have F316 := F271.keep K310 nin0
 have F317 := F272.keep K310
 have F318 := F273.keep K310 nin0
 have F319 := F274.keep K310 nin0
 have F320 := F275.keep K310
 have F321 := F276.keep K310 nin0
 have F322 := F277.keep K310
 have F323 := F278.keep K310 nin0
 have F324 := F279.keep K310 nin0
 have F325 := F280.keep K310 nin0
 have F326 := F281.keep K310
 have F327 := F282.keep K310
 have F328 := F283.keep K310
 have F329 := F284.keep K310 nin0
 have F330 := F285.keep K310
 have F331 := F286.keep K310 nin0
 have F332 := F288.keep K310 nin0
 have Z333 : n0 ≤ T292.heap.size := Nat.le_trans Z289 K310.1
 have O334 := O290.keep K310 all0
 have P335 : Keep h0 T292.heap [a] := P291.trans K310 (fun _ q => nomatch q)
 have e336 : T292.heap = T292.heap := rfl
 have k19 : own_J p e below T292 m 60 #[.val (.ref a), .val (.ref tp), .val (.ref b), .val (.ref g), .val (.ref a53), .val (.int (2 : Int32))] [(.ref r304), (.ref a)] B_ := fun t_ hh => k18 t_ (st302 t_ hh)
 obtain ⟨T337, h338, X339, e340, W341, st342⟩ := putF X296 hx hZ hown (host := "") (Or.inl (wT hw 250 rfl)) Via.refl e336 F315 F313 (Or.inr ⟨(wT hw 251 rfl), rfl, hnm⟩) (wT hw 122 rfl) (ty := .object "java/util/List") (by decide) rfl rfl (g := (mkF m 60 #[.val (.ref a), .val (.ref tp), .val (.ref b), .val (.ref g), .val (.ref a53), .val (.int (2 : Int32))] [(.ref r304), (.ref a)])) rfl rfl (hb hby own_h478)
 have N343 := Fr.snoc X339 N311 f4_
 have F344 := Exa.wr W341 F313
 have F345 := Fld.other W341 F314 (Or.inr (slot_ne (Or.inr (wT hw 165 rfl)) (Or.inr (wT hw 251 rfl)) (by decide) (t := (.object "java/lang/String")) (t' := (.object "java/util/List")) (by decide) (by decide)))
 have F346 : Fld Z h338 a "com/example/level_slate/levelslate/TopicCandidates" "candidates" "Ljava/util/List;" (.ref r304) := Fld.same W341 F315
 have F347 := Fld.other W341 F316 (Or.inr (slot_ne (Or.inr (wT hw 253 rfl)) (Or.inr (wT hw 251 rfl)) (by decide) (t := (.array .double)) (t' := (.object "java/util/List")) (by decide) (by decide)))
 have F348 := Exa.wr W341 F317
 have F349 := Fld.other W341 F318 (Or.inl f21_)
 have F350 := Fld.other W341 F319 (Or.inl f21_)
 have F351 := Exa.wr W341 F320
 have F352 := F321.other W341 f22_
 have F353 := Exa.wr W341 F322
 have F354 := Fld.other W341 F323 (Or.inl f23_)
 have F355 := Fld.other W341 F324 (Or.inl f23_)
 have F356 := F325.other W341 f24_
 have F357 := Exa.wr W341 F326
 have F358 := Exa.wr W341 F327
 have F359 := Exa.wr W341 F328
 have F360 := Fld.other W341 F329 (Or.inl f25_)
 have F361 := Exa.wr W341 F330
 have F362 := Fld.other W341 F331 (Or.inl f26_)
 have F364 := F332.other W341 (Ne.symm ne143)
 have F365 := Exa.wr W341 F305
 have ne367 : a ≠ r304 := Nat.ne_of_lt (Nat.lt_of_lt_of_le F268.lt F309)
 have F366 := Fld.other W341 F306 (Or.inl (Ne.symm ne367))
 have F368 := Fld.other W341 F307 (Or.inl (Ne.symm ne367))
 have Z369 : n0 ≤ h338.size := W341.size ▸ Z333
 have O370 := O334.wr W341 f4_
 have P371 : Keep h0 h338 [a] := P335.wr W341 (Or.inl (List.mem_of_getElem? (i := 0) rfl))
 have k20 : own_J p e below T337 m 63 #[.val (.ref a), .val (.ref tp), .val (.ref b), .val (.ref g), .val (.ref a53), .val (.int (2 : Int32))] [] B_ := fun t_ hh => k19 t_ (st342 t_ hh)
 have k21 : own_J p e below T337 m 66 #[.val (.ref a), .val (.ref tp), .val (.ref b), .val (.ref g), .val (.ref a53), .val (.int (2 : Int32))] [(.ref a53), (.ref a)] B_ := fun t_ hh => k20 t_ (by
  refine XS.aloadN X339.here hx rfl (hb hby own_h479) rfl rfl ?_
  refine XS.aload X339.here hx rfl (hb hby own_h480) rfl rfl ?_
  exact hh)
 obtain ⟨T372, h373, X374, e375, W376, st377⟩ := putF X339 hx hZ hown (host := "") (Or.inl (wT hw 252 rfl)) Via.refl e340 F347 F344 (Or.inr ⟨(wT hw 253 rfl), rfl, hnm⟩) (wT hw 122 rfl) (ty := .array .double) (by decide) rfl rfl (g := (mkF m 66 #[.val (.ref a), .val (.ref tp), .val (.ref b), .val (.ref g), .val (.ref a53), .val (.int (2 : Int32))] [(.ref a53), (.ref a)])) rfl rfl (hb hby own_h481)
 have N378 := Fr.snoc X374 N343 f4_
 have F379 := Exa.wr W376 F344
 have F380 := Fld.other W376 F345 (Or.inr (slot_ne (Or.inr (wT hw 165 rfl)) (Or.inr (wT hw 253 rfl)) (by decide) (t := (.object "java/lang/String")) (t' := (.array .double)) (by decide) (by decide)))
 have F381 := Fld.other W376 F346 (Or.inr (slot_ne (Or.inr (wT hw 251 rfl)) (Or.inr (wT hw 253 rfl)) (by decide) (t := (.object "java/util/List")) (t' := (.array .double)) (by decide) (by decide)))
 have F382 : Fld Z h373 a "com/example/level_slate/levelslate/TopicCandidates" "runScores" "[D" (.ref a53) := Fld.same W376 F347
 have F383 := Exa.wr W376 F348
 have F384 := Fld.other W376 F349 (Or.inl f21_)
 have F385 := Fld.other W376 F350 (Or.inl f21_)
 have F386 := Exa.wr W376 F351
 have F387 := F352.other W376 f22_
 have F388 := Exa.wr W376 F353
 have F389 := Fld.other W376 F354 (Or.inl f23_)
 have F390 := Fld.other W376 F355 (Or.inl f23_)
 have F391 := F356.other W376 f24_
 have F392 := Exa.wr W376 F357
 have F393 := Exa.wr W376 F358
 have F394 := Exa.wr W376 F359
 have F395 := Fld.other W376 F360 (Or.inl f25_)
 have F396 := Exa.wr W376 F361
 have F397 := Fld.other W376 F362 (Or.inl f26_)
 have F399 := F364.other W376 (Ne.symm ne143)
 have F400 := Exa.wr W376 F365
 have F401 := Fld.other W376 F366 (Or.inl (Ne.symm ne367))
 have F402 := Fld.other W376 F368 (Or.inl (Ne.symm ne367))
 have Z403 : n0 ≤ h373.size := W376.size ▸ Z369
 have O404 := O370.wr W376 f4_
 have P405 : Keep h0 h373 [a] := P371.wr W376 (Or.inl (List.mem_of_getElem? (i := 0) rfl))
 have k22 : own_J p e below T372 m 69 #[.val (.ref a), .val (.ref tp), .val (.ref b), .val (.ref g), .val (.ref a53), .val (.int (2 : Int32))] [] B_ := fun t_ hh => k21 t_ (st377 t_ hh)
 obtain ⟨fs, hr, hrun, hended, hW, hsame⟩ := X374.leave (v := none) (fun _ => rfl)
 refine ⟨_, _, (own_from hB_ (k22 _ (X374.returnOut hx Bd.returns (hb hby own_h482) hr))), hrun, hended, _, _, rfl, ?_, ⟨_, rfl⟩, hW, hsame.mono (own_l rfl) (own_l rfl)⟩
 show Q_rmTC2 Z a tp b ea ke g f kf x0 x1 d0 d1 u0 u1 em h0 n0 _ T372.heap _
 rw [e375]
 exact ⟨r304, rfl, N378, P405, F379, F381, F400, F401, F402, trivial⟩
def Q_rmTC3 (Z : State) (a : Addr) (tp : Addr) (b : Addr) (ea : Addr) (ke : ClassId) (g : Addr) (f : Addr) (kf : ClassId) (x0 : Addr) (x1 : Addr) (x2 : Addr) (d0 : Addr) (d1 : Addr) (d2 : Addr) (u0 : UInt64) (u1 : UInt64) (u2 : UInt64) (em : Addr) (h0 : Heap) (n0 : Nat) (v : Option Value) (h : Heap) (L : List Loc) : Prop := ∃ r : Addr, ∃ q : Addr, ∃ kq : ClassId, v = none ∧ Fr n0 L ∧ Keep h0 h [a] ∧ Exa Z h a "com/example/level_slate/levelslate/TopicCandidates" ∧ Fld Z h a "com/example/level_slate/levelslate/TopicCandidates" "candidates" "Ljava/util/List;" (.ref r) ∧ Exa Z h r "java/util/ImmutableCollections$ListN" ∧ Fld Z h r "java/util/ImmutableCollections$ListN" "elements" "[Ljava/lang/Object;" (.ref q) ∧ Arv Z h q kq (.object "java/lang/Object") (3 : Int32) [(.ref x0), (.ref x1), (.ref x2)] .null ∧ True
set_option maxRecDepth 65536 in
set_option maxHeartbeats 40000000 in
theorem rmTC3 (l : Launch) (Z : State) (a0 : Array Value) (hw : ∀ d ∈ tables_1, d.before a0 Z = true) (ws : List Jvm.Cond) (a : Addr) (tp : Addr) (b : Addr) (ea : Addr) (ke : ClassId) (g : Addr) (f : Addr) (kf : ClassId) (x0 : Addr) (x1 : Addr) (x2 : Addr) (d0 : Addr) (d1 : Addr) (d2 : Addr) (u0 : UInt64) (u1 : UInt64) (u2 : UInt64) (em : Addr) (h0 : Heap) (n0 : Nat) (Z0 : n0 ≤ h0.size) (f0_ : Exa Z h0 a "com/example/level_slate/levelslate/TopicCandidates") (f1_ : Fld Z h0 a "com/example/level_slate/levelslate/TopicCandidates" "topic" "Ljava/lang/String;" .null) (f2_ : Fld Z h0 a "com/example/level_slate/levelslate/TopicCandidates" "candidates" "Ljava/util/List;" .null) (f3_ : Fld Z h0 a "com/example/level_slate/levelslate/TopicCandidates" "runScores" "[D" .null) (f4_ : n0 ≤ a) (f5_ : Old Z n0 h0) (f6_ : Exa Z h0 b "java/util/ArrayList") (f7_ : Fld Z h0 b "java/util/ArrayList" "elementData" "[Ljava/lang/Object;" (.ref ea)) (f8_ : Fld Z h0 b "java/util/ArrayList" "size" "I" (.int (3 : Int32))) (f9_ : Exa Z h0 ea "[Ljava/lang/Object;") (f10_ : Arv Z h0 ea ke (.object "java/lang/Object") (10 : Int32) [(.ref x0), (.ref x1), (.ref x2), .null, .null, .null, .null, .null, .null, .null] .null) (f11_ : Exa Z h0 g "java/util/ArrayList") (f12_ : Fld Z h0 g "java/util/ArrayList" "elementData" "[Ljava/lang/Object;" (.ref f)) (f13_ : Fld Z h0 g "java/util/ArrayList" "size" "I" (.int (3 : Int32))) (f14_ : Arv Z h0 f kf (.object "java/lang/Object") (10 : Int32) [(.ref d0), (.ref d1), (.ref d2), .null, .null, .null, .null, .null, .null, .null] .null) (f15_ : Exa Z h0 x0 "java/lang/String") (f16_ : Exa Z h0 x1 "java/lang/String") (f17_ : Exa Z h0 x2 "java/lang/String") (f18_ : Exa Z h0 d0 "java/lang/Double") (f19_ : Fld Z h0 d0 "java/lang/Double" "value" "D" (.double u0)) (f20_ : Exa Z h0 d1 "java/lang/Double") (f21_ : Fld Z h0 d1 "java/lang/Double" "value" "D" (.double u1)) (f22_ : Exa Z h0 d2 "java/lang/Double") (f23_ : Fld Z h0 d2 "java/lang/Double" "value" "D" (.double u2)) (f24_ : b ≠ a) (f25_ : ea ≠ a) (f26_ : g ≠ a) (f27_ : f ≠ a) (f28_ : d0 ≠ a) (f29_ : d1 ≠ a) (f30_ : d2 ≠ a) (sE : Sta Z Z.heap "java/util/ImmutableCollections" "EMPTY" "Ljava/lang/Object;" (.ref em)) (mr : Addr) (hM : own_Mir Z "[Ljava/lang/Object;" mr) :
    own_Met l (⟨"com/example/level_slate/levelslate/TopicCandidates", "<init>", "(Ljava/lang/String;Ljava/util/List;Ljava/util/List;)V"⟩ : MethodName) prog_14_method_1_code 6 none ws (rO 9 4 11 116) #[(.ref a), (.ref tp), (.ref b), (.ref g)] Z h0 (Q_rmTC3 Z a tp b ea ke g f kf x0 x1 x2 d0 d1 d2 u0 u1 u2 em h0 n0) := by
 refine MetFree.of_bodySF (plainFor_of_name own_h447) hisR ?_
 intro p e s m args below meth c s₁ Bd hml0 hP hK
 obtain ⟨rfl, hZ, hh⟩ := hP
 have hx := Bd.exec
 have hby := Bd.bytes
 have hml : c.maxLocals = 6 := hml0
 have hown : s.vm.findClass "com/example/level_slate/levelslate/TopicCandidates" = some m.cls := findClass_of_methodNamed Bd.named
 have hnm := (name_of_methodNamed Bd.named Bd.method).1
 have X0 : Stand p l e (rO 9 4 11 116) s m #[(.ref a), (.ref tp), (.ref b), (.ref g)] below meth c s₁ [] 0 0 := Stand.of_body Bd
 have e0 : s₁.heap = h0 := by rw [← hh, Bd.state]; rfl
 have N0 := Fr.nil n0
 obtain ⟨B_, hB_⟩ : ∃ z, z = s₁.setTop (entryFrame m #[(.ref a), (.ref tp), (.ref b), (.ref g)] 6) := ⟨_, rfl⟩
 have k0 : own_K p e below (s₁.setTop (mkF m 0 #[.val (.ref a), .val (.ref tp), .val (.ref b), .val (.ref g), .unset, .unset] [])) B_ := by rw [hB_]; exact fun t k => castTop (by clear k; first | (simp [entryFrame, mkF, argsToLocals, Value.category, maxLocals]; done) | rfl) k
 have K0 : Keep h0 h0 [a] := Keep.refl _ _
 have k1 : own_J p e below s₁ m 1 #[.val (.ref a), .val (.ref tp), .val (.ref b), .val (.ref g), .unset, .unset] [(.ref a)] B_ := fun t_ hh => k0 t_ (by
  refine XS.aloadN X0.here hx rfl (hb hby own_h448) rfl rfl ?_
  exact hh)
 obtain ⟨T21, X22, e23, st24⟩ := initO X0 hx hZ hown (wT hw 127 rfl) (wT hw 17 rfl) (wT hw 18 rfl) e0 (g := (mkF m 1 #[.val (.ref a), .val (.ref tp), .val (.ref b), .val (.ref g), .unset, .unset] [(.ref a)])) rfl (by rw [hml]; rfl) rfl (hb hby own_h449) (by decide) (W := 0) (by show 2 * 0 + _ ≤ _; exact Nat.le_of_eq rfl) (by decide)
 have k2 : own_J p e below T21 m 4 #[.val (.ref a), .val (.ref tp), .val (.ref b), .val (.ref g), .unset, .unset] [] B_ := fun t_ hh => k1 t_ (st24 t_ hh)
 have k3 : own_J p e below T21 m 5 #[.val (.ref a), .val (.ref tp), .val (.ref b), .val (.ref g), .unset, .unset] [(.ref b)] B_ := fun t_ hh => k2 t_ (by
  refine XS.aloadN X22.here hx rfl (hb hby own_h450) rfl rfl ?_
  exact hh)
 obtain ⟨cq36, kq37, qa38, qb39, qc40⟩ := isOf hZ e23 f6_
 obtain ⟨_, _, ⟨T25, L26, k_27, n_28⟩, -, X29, ⟨Lc30, hQ31, l_32, y_33, z_34⟩, st35⟩ := X22.interfaceBack hx (xi := (⟨"java/util/List", "size", "()I"⟩ : MethodName)) (y := (⟨"java/util/ArrayList", "size", "()I"⟩ : MethodName)) hown (mvT hZ (wT hw 128 rfl)) (mvT hZ (wT hw 129 rfl)) (mvT hZ (wT hw 130 rfl)) (mvT hZ (wT hw 131 rfl)) (mvT hZ (wT hw 132 rfl)) (mvT hZ (wT hw 133 rfl)) (mvT hZ (wT hw 134 rfl)) (mvT hZ (wT hw 58 rfl)) (by decide) (backOf (W := 0) (rmSz l Z a0 hw [] b (3 : Int32) h0 n0 Z0 f8_ ) hZ (wT hw 135 rfl) (wT hw 29 rfl) (by decide) (by decide)) qa38 qb39 qc40 (g := (mkF m 5 #[.val (.ref a), .val (.ref tp), .val (.ref b), .val (.ref g), .unset, .unset] [(.ref b)])) rfl (by rw [hml]; rfl) (Steps.refl _) (argsL := []) (rest := []) (lenOf own_h452 rfl) rfl (by show 2 * 0 + _ ≤ _; exact Nat.le_of_eq rfl) (hb hby own_h451) (fun _ _ => ⟨rfl, e23, own_l rfl, own_l rfl⟩)
 dsimp only [Pt.U, Pt.locs, Pt.cells, Pt.slots] at X29 l_32 y_33 z_34 st35 hQ31
 subst l_32 y_33 z_34
 obtain ⟨rfl, N41, e42⟩ := hQ31
 have N43 := Fr.app N0 N41
 have k4 : own_J p e below T25 m 10 #[.val (.ref a), .val (.ref tp), .val (.ref b), .val (.ref g), .unset, .unset] [(.int (3 : Int32))] B_ := fun t_ hh => k3 t_ (st35.trans hh)
 obtain ⟨T44, h45, kA46, X47, e48, E49, A50, st52⟩ := newP X29 hx hZ (wT hw 136 rfl) e42 (g := (mkF m 10 #[.val (.ref a), .val (.ref tp), .val (.ref b), .val (.ref g), .unset, .unset] [(.int (3 : Int32))])) rfl (hb hby own_h453) rfl (by decide) (cap := 3) (by decide) (by decide) (by decide) (by decide)
 obtain ⟨a53, g54⟩ : ∃ z, z = h0.size := ⟨_, rfl⟩
 rw [← g54] at A50 st52
 have H055 : h0.size ≤ a53 := Nat.le_trans K0.1 (Nat.le_of_eq g54.symm)
 have G56 : n0 ≤ a53 := Nat.le_trans Z0 (Nat.le_of_eq g54.symm)
 have F57 := Exa.ext (h' := h45) E49 f0_
 have F58 := Fld.ext (h' := h45) E49 f1_
 have F59 := Fld.ext (h' := h45) E49 f2_
 have F60 := Fld.ext (h' := h45) E49 f3_
 have F61 := Exa.ext (h' := h45) E49 f6_
 have F62 := Fld.ext (h' := h45) E49 f7_
 have F63 := Fld.ext (h' := h45) E49 f8_
 have F64 := Exa.ext (h' := h45) E49 f9_
 have F65 := f10_.ext E49
 have F66 := Exa.ext (h' := h45) E49 f11_
 have F67 := Fld.ext (h' := h45) E49 f12_
 have F68 := Fld.ext (h' := h45) E49 f13_
 have F69 := f14_.ext E49
 have F70 := Exa.ext (h' := h45) E49 f15_
 have F71 := Exa.ext (h' := h45) E49 f16_
 have F72 := Exa.ext (h' := h45) E49 f17_
 have F73 := Exa.ext (h' := h45) E49 f18_
 have F74 := Fld.ext (h' := h45) E49 f19_
 have F75 := Exa.ext (h' := h45) E49 f20_
 have F76 := Fld.ext (h' := h45) E49 f21_
 have F77 := Exa.ext (h' := h45) E49 f22_
 have F78 := Fld.ext (h' := h45) E49 f23_
 have Z79 : n0 ≤ h45.size := Nat.le_trans Z0 E49.1
 have O80 := f5_.ext E49
 have P81 : Keep h0 h45 [a] := K0.ext E49
 have V82 : Arv Z h45 a53 kA46 .double (3 : Int32) [(.double (0 : UInt64)), (.double (0 : UInt64)), (.double (0 : UInt64))] (.double (0 : UInt64)) := Arv.pad (Arv.new A50 (by decide)) (pad_rep [] (.double (0 : UInt64)) 3)
 have k5 : own_J p e below T44 m 12 #[.val (.ref a), .val (.ref tp), .val (.ref b), .val (.ref g), .unset, .unset] [(.ref a53)] B_ := fun t_ hh => k4 t_ (st52 t_ hh)
 obtain ⟨cl83, Ar84, -, S85, Ng86, -, -⟩ := id V82
 have k6 : own_J p e below T44 m 32 #[.val (.ref a), .val (.ref tp), .val (.ref b), .val (.ref g), .val (.ref a53), .val (.int (0 : Int32))] [(.int (0 : Int32)), (.ref g), (.int (0 : Int32)), (.ref a53)] B_ := fun t_ hh => k5 t_ (by
  refine XS.astore X47.here hx rfl (hb hby own_h454) rfl rfl (l' := #[.val (.ref a), .val (.ref tp), .val (.ref b), .val (.ref g), .val (.ref a53), .unset]) rfl ?_
  refine XS.iconst X47.here hx rfl (hb hby own_h455) ?_
  refine XS.istore X47.here hx rfl (hb hby own_h456) rfl (l' := #[.val (.ref a), .val (.ref tp), .val (.ref b), .val (.ref g), .val (.ref a53), .val (.int (0 : Int32))]) rfl ?_
  refine XS.iload X47.here hx rfl (hb hby own_h457) rfl ?_
  refine XS.aload X47.here hx rfl (hb hby own_h458) rfl rfl ?_
  refine X47.arraylength hx (by rw [e48]; exact Ar84.1) (State.isArrayOf_alike hZ.alike Ar84.2.1) (g := (mkF m 21 #[.val (.ref a), .val (.ref tp), .val (.ref b), .val (.ref g), .val (.ref a53), .val (.int (0 : Int32))] [(.ref a53), (.int (0 : Int32))])) rfl rfl (hb hby own_h459) _ ?_
  rw [len_of S85 Ng86]
  refine XS.icmpNo X47.here hx rfl (hb hby own_h460) rfl (by decide) ?_
  refine XS.aload X47.here hx rfl (hb hby own_h461) rfl rfl ?_
  refine XS.iload X47.here hx rfl (hb hby own_h462) rfl ?_
  refine XS.aloadN X47.here hx rfl (hb hby own_h463) rfl rfl ?_
  refine XS.iload X47.here hx rfl (hb hby own_h464) rfl ?_
  exact hh)
 obtain ⟨cq98, kq99, qa100, qb101, qc102⟩ := isOf hZ e48 F66
 obtain ⟨_, _, ⟨T87, L88, k_89, n_90⟩, -, X91, ⟨Lc92, hQ93, l_94, y_95, z_96⟩, st97⟩ := X47.interfaceBack hx (xi := (⟨"java/util/List", "get", "(I)Ljava/lang/Object;"⟩ : MethodName)) (y := (⟨"java/util/ArrayList", "get", "(I)Ljava/lang/Object;"⟩ : MethodName)) hown (mvT hZ (wT hw 137 rfl)) (mvT hZ (wT hw 138 rfl)) (mvT hZ (wT hw 139 rfl)) (mvT hZ (wT hw 140 rfl)) (mvT hZ (wT hw 141 rfl)) (mvT hZ (wT hw 142 rfl)) (mvT hZ (wT hw 143 rfl)) (mvT hZ (wT hw 58 rfl)) (by decide) (backOf (W := 2) (rmGet0 l Z a0 hw [] g f kf d0 ([(.ref d0), (.ref d1), (.ref d2), .null, .null, .null, .null, .null, .null, .null]) (3 : Int32) h45 n0 Z79 F66 F68 (by decide) F67 F69 rfl ) hZ (wT hw 144 rfl) (wT hw 29 rfl) (by decide) (by decide)) qa100 qb101 qc102 (g := (mkF m 32 #[.val (.ref a), .val (.ref tp), .val (.ref b), .val (.ref g), .val (.ref a53), .val (.int (0 : Int32))] [(.int (0 : Int32)), (.ref g), (.int (0 : Int32)), (.ref a53)])) rfl (by rw [hml]; rfl) (Steps.refl _) (argsL := [(.int (0 : Int32))]) (rest := [(.int (0 : Int32)), (.ref a53)]) (lenOf own_h297 rfl) rfl (by show 2 * 0 + _ ≤ _; exact Nat.le_of_eq rfl) (hb hby own_h465) (fun _ _ => ⟨rfl, e48, own_l rfl, own_l rfl⟩)
 dsimp only [Pt.U, Pt.locs, Pt.cells, Pt.slots] at X91 l_94 y_95 z_96 st97 hQ93
 subst l_94 y_95 z_96
 obtain ⟨rfl, N103, e104⟩ := hQ93
 have N105 := Fr.app N43 N103
 have k7 : own_J p e below T87 m 37 #[.val (.ref a), .val (.ref tp), .val (.ref b), .val (.ref g), .val (.ref a53), .val (.int (0 : Int32))] [(.ref d0), (.int (0 : Int32)), (.ref a53)] B_ := fun t_ hh => k6 t_ (st97.trans hh)
 obtain ⟨T106, X107, e108, st109⟩ := castY X91 hx hZ hown (wT hw 158 rfl) e104 (Ins.self F73) (g := (mkF m 37 #[.val (.ref a), .val (.ref tp), .val (.ref b), .val (.ref g), .val (.ref a53), .val (.int (0 : Int32))] [(.ref d0), (.int (0 : Int32)), (.ref a53)])) rfl rfl (hb hby own_h466)
 have k8 : own_J p e below T106 m 40 #[.val (.ref a), .val (.ref tp), .val (.ref b), .val (.ref g), .val (.ref a53), .val (.int (0 : Int32))] [(.ref d0), (.int (0 : Int32)), (.ref a53)] B_ := fun t_ hh => k7 t_ (st109 t_ hh)
 obtain ⟨cq121, kq122, qa123, qb124, qc125⟩ := isOf hZ e108 F73
 obtain ⟨_, _, ⟨T110, L111, k_112, n_113⟩, -, X114, ⟨Lc115, hQ116, l_117, y_118, z_119⟩, st120⟩ := X107.virtualBack hx (y := (⟨"java/lang/Double", "doubleValue", "()D"⟩ : MethodName)) (z := (⟨"java/lang/Double", "doubleValue", "()D"⟩ : MethodName)) hown (mvT hZ (wT hw 159 rfl)) (mvT hZ (wT hw 160 rfl)) (notFace_of_selects (args := #[]) (mvT hZ (wT hw 162 rfl))) (mvT hZ (wT hw 162 rfl)) (mvT hZ (wT hw 161 rfl)) (by decide) (backOf (W := 2) (rmDd l Z a0 hw [] d0 u0 h45 n0 Z79 F74 ) hZ (wT hw 163 rfl) (wT hw 88 rfl) (by decide) (by decide)) qa123 qc125 (g := (mkF m 40 #[.val (.ref a), .val (.ref tp), .val (.ref b), .val (.ref g), .val (.ref a53), .val (.int (0 : Int32))] [(.ref d0), (.int (0 : Int32)), (.ref a53)])) rfl (by rw [hml]; rfl) (Steps.refl _) (argsL := []) (rest := [(.int (0 : Int32)), (.ref a53)]) (lenOf own_h468 rfl) rfl (by show 2 * 0 + _ ≤ _; exact Nat.le_of_eq rfl) (hb hby own_h467) (fun _ _ => ⟨rfl, e108, own_l rfl, own_l rfl⟩)
 dsimp only [Pt.U, Pt.locs, Pt.cells, Pt.slots] at X114 l_117 y_118 z_119 st120 hQ116
 subst l_117 y_118 z_119
 obtain ⟨rfl, N126, e127⟩ := hQ116
 have N128 := Fr.app N105 N126
 have k9 : own_J p e below T110 m 43 #[.val (.ref a), .val (.ref tp), .val (.ref b), .val (.ref g), .val (.ref a53), .val (.int (0 : Int32))] [(.double u0), (.int (0 : Int32)), (.ref a53)] B_ := fun t_ hh => k8 t_ (st120.trans hh)
 obtain ⟨cl129, Ar130, q131, S132, Ng133, H134, Gf135⟩ := id V82
 have hin136 := inb_of (j := (0 : Int32)) S132 (by decide)
 obtain ⟨T137, h138, X139, e140, W141, st142⟩ := stD X114 hx hZ e127 Ar130 (j := (0 : Int32)) hin136 (g := (mkF m 43 #[.val (.ref a), .val (.ref tp), .val (.ref b), .val (.ref g), .val (.ref a53), .val (.int (0 : Int32))] [(.double u0), (.int (0 : Int32)), (.ref a53)])) rfl rfl (hb hby own_h469)
 have N143 := Fr.snoc X139 N128 G56
 have F144 := Exa.wr W141 F57
 have ne146 : a ≠ a53 := by rw [g54]; exact Nat.ne_of_lt f0_.lt
 have F145 := Fld.other W141 F58 (Or.inl ne146)
 have F147 := Fld.other W141 F59 (Or.inl ne146)
 have F148 := Fld.other W141 F60 (Or.inl ne146)
 have F149 := Exa.wr W141 F61
 have ne151 : b ≠ a53 := by rw [g54]; exact Nat.ne_of_lt f6_.lt
 have F150 := Fld.other W141 F62 (Or.inl ne151)
 have F152 := Fld.other W141 F63 (Or.inl ne151)
 have F153 := Exa.wr W141 F64
 have ne155 : ea ≠ a53 := by rw [g54]; exact Nat.ne_of_lt f9_.lt
 have F154 := F65.other W141 ne155
 have F156 := Exa.wr W141 F66
 have ne158 : g ≠ a53 := by rw [g54]; exact Nat.ne_of_lt f11_.lt
 have F157 := Fld.other W141 F67 (Or.inl ne158)
 have F159 := Fld.other W141 F68 (Or.inl ne158)
 have ne161 : f ≠ a53 := by rw [g54]; exact Nat.ne_of_lt f14_.lt
 have F160 := F69.other W141 ne161
 have F162 := Exa.wr W141 F70
 have F163 := Exa.wr W141 F71
 have F164 := Exa.wr W141 F72
 have F165 := Exa.wr W141 F73
 have ne167 : d0 ≠ a53 := by rw [g54]; exact Nat.ne_of_lt f18_.lt
 have F166 := Fld.other W141 F74 (Or.inl ne167)
 have F168 := Exa.wr W141 F75
 have ne170 : d1 ≠ a53 := by rw [g54]; exact Nat.ne_of_lt f20_.lt
 have F169 := Fld.other W141 F76 (Or.inl ne170)
 have F171 := Exa.wr W141 F77
 have ne173 : d2 ≠ a53 := by rw [g54]; exact Nat.ne_of_lt f22_.lt
 have F172 := Fld.other W141 F78 (Or.inl ne173)
 have Z175 : n0 ≤ h138.size := W141.size ▸ Z79
 have O176 := O80.wr W141 G56
 have P177 : Keep h0 h138 [a] := P81.wr W141 (Or.inr H055)
 have V178 : Arv Z h138 a53 kA46 .double (3 : Int32) [(.double u0), (.double (0 : UInt64)), (.double (0 : UInt64))] (.double (0 : UInt64)) := Arv.set Ar130 q131 S132 Ng133 H134 Gf135 rfl W141 0 rfl (own_lt rfl)
 have k10 : own_J p e below T137 m 44 #[.val (.ref a), .val (.ref tp), .val (.ref b), .val (.ref g), .val (.ref a53), .val (.int (0 : Int32))] [] B_ := fun t_ hh => k9 t_ (st142 t_ hh)
 obtain ⟨cl179, Ar180, -, S181, Ng182, -, -⟩ := id V178
 have k11 : own_J p e below T137 m 32 #[.val (.ref a), .val (.ref tp), .val (.ref b), .val (.ref g), .val (.ref a53), .val (.int (1 : Int32))] [(.int (1 : Int32)), (.ref g), (.int (1 : Int32)), (.ref a53)] B_ := fun t_ hh => k10 t_ (by
  refine XS.iinc X139.here hx rfl (hb hby own_h470) rfl (l' := #[.val (.ref a), .val (.ref tp), .val (.ref b), .val (.ref g), .val (.ref a53), .val (.int (1 : Int32))]) rfl ?_
  refine XS.goto X139.here hx rfl (pc0 := 47) (pc' := 17) rfl (hb hby own_h471) (by decide) (by decide) ?_
  refine XS.iload X139.here hx rfl (hb hby own_h457) rfl ?_
  refine XS.aload X139.here hx rfl (hb hby own_h458) rfl rfl ?_
  refine X139.arraylength hx (by rw [e140]; exact Ar180.1) (State.isArrayOf_alike hZ.alike Ar180.2.1) (g := (mkF m 21 #[.val (.ref a), .val (.ref tp), .val (.ref b), .val (.ref g), .val (.ref a53), .val (.int (1 : Int32))] [(.ref a53), (.int (1 : Int32))])) rfl rfl (hb hby own_h459) _ ?_
  rw [len_of S181 Ng182]
  refine XS.icmpNo X139.here hx rfl (hb hby own_h460) rfl (by decide) ?_
  refine XS.aload X139.here hx rfl (hb hby own_h461) rfl rfl ?_
  refine XS.iload X139.here hx rfl (hb hby own_h462) rfl ?_
  refine XS.aloadN X139.here hx rfl (hb hby own_h463) rfl rfl ?_
  refine XS.iload X139.here hx rfl (hb hby own_h464) rfl ?_
  exact hh)
 obtain ⟨cq194, kq195, qa196, qb197, qc198⟩ := isOf hZ e140 F156
 obtain ⟨_, _, ⟨T183, L184, k_185, n_186⟩, -, X187, ⟨Lc188, hQ189, l_190, y_191, z_192⟩, st193⟩ := X139.interfaceBack hx (xi := (⟨"java/util/List", "get", "(I)Ljava/lang/Object;"⟩ : MethodName)) (y := (⟨"java/util/ArrayList", "get", "(I)Ljava/lang/Object;"⟩ : MethodName)) hown (mvT hZ (wT hw 137 rfl)) (mvT hZ (wT hw 138 rfl)) (mvT hZ (wT hw 139 rfl)) (mvT hZ (wT hw 140 rfl)) (mvT hZ (wT hw 141 rfl)) (mvT hZ (wT hw 142 rfl)) (mvT hZ (wT hw 143 rfl)) (mvT hZ (wT hw 58 rfl)) (by decide) (backOf (W := 2) (rmGet1 l Z a0 hw [] g f kf d1 ([(.ref d0), (.ref d1), (.ref d2), .null, .null, .null, .null, .null, .null, .null]) (3 : Int32) h138 n0 Z175 F156 F159 (by decide) F157 F160 rfl ) hZ (wT hw 144 rfl) (wT hw 29 rfl) (by decide) (by decide)) qa196 qb197 qc198 (g := (mkF m 32 #[.val (.ref a), .val (.ref tp), .val (.ref b), .val (.ref g), .val (.ref a53), .val (.int (1 : Int32))] [(.int (1 : Int32)), (.ref g), (.int (1 : Int32)), (.ref a53)])) rfl (by rw [hml]; rfl) (Steps.refl _) (argsL := [(.int (1 : Int32))]) (rest := [(.int (1 : Int32)), (.ref a53)]) (lenOf own_h297 rfl) rfl (by show 2 * 0 + _ ≤ _; exact Nat.le_of_eq rfl) (hb hby own_h465) (fun _ _ => ⟨rfl, e140, own_l rfl, own_l rfl⟩)
 dsimp only [Pt.U, Pt.locs, Pt.cells, Pt.slots] at X187 l_190 y_191 z_192 st193 hQ189
 subst l_190 y_191 z_192
 obtain ⟨rfl, N199, e200⟩ := hQ189
 have N201 := Fr.app N143 N199
 have k12 : own_J p e below T183 m 37 #[.val (.ref a), .val (.ref tp), .val (.ref b), .val (.ref g), .val (.ref a53), .val (.int (1 : Int32))] [(.ref d1), (.int (1 : Int32)), (.ref a53)] B_ := fun t_ hh => k11 t_ (st193.trans hh)
 obtain ⟨T202, X203, e204, st205⟩ := castY X187 hx hZ hown (wT hw 158 rfl) e200 (Ins.self F168) (g := (mkF m 37 #[.val (.ref a), .val (.ref tp), .val (.ref b), .val (.ref g), .val (.ref a53), .val (.int (1 : Int32))] [(.ref d1), (.int (1 : Int32)), (.ref a53)])) rfl rfl (hb hby own_h466)
 have k13 : own_J p e below T202 m 40 #[.val (.ref a), .val (.ref tp), .val (.ref b), .val (.ref g), .val (.ref a53), .val (.int (1 : Int32))] [(.ref d1), (.int (1 : Int32)), (.ref a53)] B_ := fun t_ hh => k12 t_ (st205 t_ hh)
 obtain ⟨cq217, kq218, qa219, qb220, qc221⟩ := isOf hZ e204 F168
 obtain ⟨_, _, ⟨T206, L207, k_208, n_209⟩, -, X210, ⟨Lc211, hQ212, l_213, y_214, z_215⟩, st216⟩ := X203.virtualBack hx (y := (⟨"java/lang/Double", "doubleValue", "()D"⟩ : MethodName)) (z := (⟨"java/lang/Double", "doubleValue", "()D"⟩ : MethodName)) hown (mvT hZ (wT hw 159 rfl)) (mvT hZ (wT hw 160 rfl)) (notFace_of_selects (args := #[]) (mvT hZ (wT hw 162 rfl))) (mvT hZ (wT hw 162 rfl)) (mvT hZ (wT hw 161 rfl)) (by decide) (backOf (W := 2) (rmDd l Z a0 hw [] d1 u1 h138 n0 Z175 F169 ) hZ (wT hw 163 rfl) (wT hw 88 rfl) (by decide) (by decide)) qa219 qc221 (g := (mkF m 40 #[.val (.ref a), .val (.ref tp), .val (.ref b), .val (.ref g), .val (.ref a53), .val (.int (1 : Int32))] [(.ref d1), (.int (1 : Int32)), (.ref a53)])) rfl (by rw [hml]; rfl) (Steps.refl _) (argsL := []) (rest := [(.int (1 : Int32)), (.ref a53)]) (lenOf own_h468 rfl) rfl (by show 2 * 0 + _ ≤ _; exact Nat.le_of_eq rfl) (hb hby own_h467) (fun _ _ => ⟨rfl, e204, own_l rfl, own_l rfl⟩)
 dsimp only [Pt.U, Pt.locs, Pt.cells, Pt.slots] at X210 l_213 y_214 z_215 st216 hQ212
 subst l_213 y_214 z_215
 obtain ⟨rfl, N222, e223⟩ := hQ212
 have N224 := Fr.app N201 N222
 have k14 : own_J p e below T206 m 43 #[.val (.ref a), .val (.ref tp), .val (.ref b), .val (.ref g), .val (.ref a53), .val (.int (1 : Int32))] [(.double u1), (.int (1 : Int32)), (.ref a53)] B_ := fun t_ hh => k13 t_ (st216.trans hh)
 obtain ⟨cl225, Ar226, q227, S228, Ng229, H230, Gf231⟩ := id V178
 have hin232 := inb_of (j := (1 : Int32)) S228 (by decide)
 obtain ⟨T233, h234, X235, e236, W237, st238⟩ := stD X210 hx hZ e223 Ar226 (j := (1 : Int32)) hin232 (g := (mkF m 43 #[.val (.ref a), .val (.ref tp), .val (.ref b), .val (.ref g), .val (.ref a53), .val (.int (1 : Int32))] [(.double u1), (.int (1 : Int32)), (.ref a53)])) rfl rfl (hb hby own_h469)
 have N239 := Fr.snoc X235 N224 G56
 have F240 := Exa.wr W237 F144
 have F241 := Fld.other W237 F145 (Or.inl ne146)
 have F242 := Fld.other W237 F147 (Or.inl ne146)
 have F243 := Fld.other W237 F148 (Or.inl ne146)
 have F244 := Exa.wr W237 F149
 have F245 := Fld.other W237 F150 (Or.inl ne151)
 have F246 := Fld.other W237 F152 (Or.inl ne151)
 have F247 := Exa.wr W237 F153
 have F248 := F154.other W237 ne155
 have F249 := Exa.wr W237 F156
 have F250 := Fld.other W237 F157 (Or.inl ne158)
 have F251 := Fld.other W237 F159 (Or.inl ne158)
 have F252 := F160.other W237 ne161
 have F253 := Exa.wr W237 F162
 have F254 := Exa.wr W237 F163
 have F255 := Exa.wr W237 F164
 have F256 := Exa.wr W237 F165
 have F257 := Fld.other W237 F166 (Or.inl ne167)
 have F258 := Exa.wr W237 F168
 have F259 := Fld.other W237 F169 (Or.inl ne170)
 have F260 := Exa.wr W237 F171
 have F261 := Fld.other W237 F172 (Or.inl ne173)
 have Z263 : n0 ≤ h234.size := W237.size ▸ Z175
 have O264 := O176.wr W237 G56
 have P265 : Keep h0 h234 [a] := P177.wr W237 (Or.inr H055)
 have V266 : Arv Z h234 a53 kA46 .double (3 : Int32) [(.double u0), (.double u1), (.double (0 : UInt64))] (.double (0 : UInt64)) := Arv.set Ar226 q227 S228 Ng229 H230 Gf231 rfl W237 1 rfl (own_lt rfl)
 have k15 : own_J p e below T233 m 44 #[.val (.ref a), .val (.ref tp), .val (.ref b), .val (.ref g), .val (.ref a53), .val (.int (1 : Int32))] [] B_ := fun t_ hh => k14 t_ (st238 t_ hh)
 obtain ⟨cl267, Ar268, -, S269, Ng270, -, -⟩ := id V266
 have k16 : own_J p e below T233 m 32 #[.val (.ref a), .val (.ref tp), .val (.ref b), .val (.ref g), .val (.ref a53), .val (.int (2 : Int32))] [(.int (2 : Int32)), (.ref g), (.int (2 : Int32)), (.ref a53)] B_ := fun t_ hh => k15 t_ (by
  refine XS.iinc X235.here hx rfl (hb hby own_h470) rfl (l' := #[.val (.ref a), .val (.ref tp), .val (.ref b), .val (.ref g), .val (.ref a53), .val (.int (2 : Int32))]) rfl ?_
  refine XS.goto X235.here hx rfl (pc0 := 47) (pc' := 17) rfl (hb hby own_h471) (by decide) (by decide) ?_
  refine XS.iload X235.here hx rfl (hb hby own_h457) rfl ?_
  refine XS.aload X235.here hx rfl (hb hby own_h458) rfl rfl ?_
  refine X235.arraylength hx (by rw [e236]; exact Ar268.1) (State.isArrayOf_alike hZ.alike Ar268.2.1) (g := (mkF m 21 #[.val (.ref a), .val (.ref tp), .val (.ref b), .val (.ref g), .val (.ref a53), .val (.int (2 : Int32))] [(.ref a53), (.int (2 : Int32))])) rfl rfl (hb hby own_h459) _ ?_
  rw [len_of S269 Ng270]
  refine XS.icmpNo X235.here hx rfl (hb hby own_h460) rfl (by decide) ?_
  refine XS.aload X235.here hx rfl (hb hby own_h461) rfl rfl ?_
  refine XS.iload X235.here hx rfl (hb hby own_h462) rfl ?_
  refine XS.aloadN X235.here hx rfl (hb hby own_h463) rfl rfl ?_
  refine XS.iload X235.here hx rfl (hb hby own_h464) rfl ?_
  exact hh)
 obtain ⟨cq282, kq283, qa284, qb285, qc286⟩ := isOf hZ e236 F249
 obtain ⟨_, _, ⟨T271, L272, k_273, n_274⟩, -, X275, ⟨Lc276, hQ277, l_278, y_279, z_280⟩, st281⟩ := X235.interfaceBack hx (xi := (⟨"java/util/List", "get", "(I)Ljava/lang/Object;"⟩ : MethodName)) (y := (⟨"java/util/ArrayList", "get", "(I)Ljava/lang/Object;"⟩ : MethodName)) hown (mvT hZ (wT hw 137 rfl)) (mvT hZ (wT hw 138 rfl)) (mvT hZ (wT hw 139 rfl)) (mvT hZ (wT hw 140 rfl)) (mvT hZ (wT hw 141 rfl)) (mvT hZ (wT hw 142 rfl)) (mvT hZ (wT hw 143 rfl)) (mvT hZ (wT hw 58 rfl)) (by decide) (backOf (W := 2) (rmGet2 l Z a0 hw [] g f kf d2 ([(.ref d0), (.ref d1), (.ref d2), .null, .null, .null, .null, .null, .null, .null]) (3 : Int32) h234 n0 Z263 F249 F251 (by decide) F250 F252 rfl ) hZ (wT hw 144 rfl) (wT hw 29 rfl) (by decide) (by decide)) qa284 qb285 qc286 (g := (mkF m 32 #[.val (.ref a), .val (.ref tp), .val (.ref b), .val (.ref g), .val (.ref a53), .val (.int (2 : Int32))] [(.int (2 : Int32)), (.ref g), (.int (2 : Int32)), (.ref a53)])) rfl (by rw [hml]; rfl) (Steps.refl _) (argsL := [(.int (2 : Int32))]) (rest := [(.int (2 : Int32)), (.ref a53)]) (lenOf own_h297 rfl) rfl (by show 2 * 0 + _ ≤ _; exact Nat.le_of_eq rfl) (hb hby own_h465) (fun _ _ => ⟨rfl, e236, own_l rfl, own_l rfl⟩)
 dsimp only [Pt.U, Pt.locs, Pt.cells, Pt.slots] at X275 l_278 y_279 z_280 st281 hQ277
 subst l_278 y_279 z_280
 obtain ⟨rfl, N287, e288⟩ := hQ277
 have N289 := Fr.app N239 N287
 have k17 : own_J p e below T271 m 37 #[.val (.ref a), .val (.ref tp), .val (.ref b), .val (.ref g), .val (.ref a53), .val (.int (2 : Int32))] [(.ref d2), (.int (2 : Int32)), (.ref a53)] B_ := fun t_ hh => k16 t_ (st281.trans hh)
 obtain ⟨T290, X291, e292, st293⟩ := castY X275 hx hZ hown (wT hw 158 rfl) e288 (Ins.self F260) (g := (mkF m 37 #[.val (.ref a), .val (.ref tp), .val (.ref b), .val (.ref g), .val (.ref a53), .val (.int (2 : Int32))] [(.ref d2), (.int (2 : Int32)), (.ref a53)])) rfl rfl (hb hby own_h466)
 have k18 : own_J p e below T290 m 40 #[.val (.ref a), .val (.ref tp), .val (.ref b), .val (.ref g), .val (.ref a53), .val (.int (2 : Int32))] [(.ref d2), (.int (2 : Int32)), (.ref a53)] B_ := fun t_ hh => k17 t_ (st293 t_ hh)
 obtain ⟨cq305, kq306, qa307, qb308, qc309⟩ := isOf hZ e292 F260
 obtain ⟨_, _, ⟨T294, L295, k_296, n_297⟩, -, X298, ⟨Lc299, hQ300, l_301, y_302, z_303⟩, st304⟩ := X291.virtualBack hx (y := (⟨"java/lang/Double", "doubleValue", "()D"⟩ : MethodName)) (z := (⟨"java/lang/Double", "doubleValue", "()D"⟩ : MethodName)) hown (mvT hZ (wT hw 159 rfl)) (mvT hZ (wT hw 160 rfl)) (notFace_of_selects (args := #[]) (mvT hZ (wT hw 162 rfl))) (mvT hZ (wT hw 162 rfl)) (mvT hZ (wT hw 161 rfl)) (by decide) (backOf (W := 2) (rmDd l Z a0 hw [] d2 u2 h234 n0 Z263 F261 ) hZ (wT hw 163 rfl) (wT hw 88 rfl) (by decide) (by decide)) qa307 qc309 (g := (mkF m 40 #[.val (.ref a), .val (.ref tp), .val (.ref b), .val (.ref g), .val (.ref a53), .val (.int (2 : Int32))] [(.ref d2), (.int (2 : Int32)), (.ref a53)])) rfl (by rw [hml]; rfl) (Steps.refl _) (argsL := []) (rest := [(.int (2 : Int32)), (.ref a53)]) (lenOf own_h468 rfl) rfl (by show 2 * 0 + _ ≤ _; exact Nat.le_of_eq rfl) (hb hby own_h467) (fun _ _ => ⟨rfl, e292, own_l rfl, own_l rfl⟩)
 dsimp only [Pt.U, Pt.locs, Pt.cells, Pt.slots] at X298 l_301 y_302 z_303 st304 hQ300
 subst l_301 y_302 z_303
 obtain ⟨rfl, N310, e311⟩ := hQ300
 have N312 := Fr.app N289 N310
 have k19 : own_J p e below T294 m 43 #[.val (.ref a), .val (.ref tp), .val (.ref b), .val (.ref g), .val (.ref a53), .val (.int (2 : Int32))] [(.double u2), (.int (2 : Int32)), (.ref a53)] B_ := fun t_ hh => k18 t_ (st304.trans hh)
 obtain ⟨cl313, Ar314, q315, S316, Ng317, H318, Gf319⟩ := id V266
 have hin320 := inb_of (j := (2 : Int32)) S316 (by decide)
 obtain ⟨T321, h322, X323, e324, W325, st326⟩ := stD X298 hx hZ e311 Ar314 (j := (2 : Int32)) hin320 (g := (mkF m 43 #[.val (.ref a), .val (.ref tp), .val (.ref b), .val (.ref g), .val (.ref a53), .val (.int (2 : Int32))] [(.double u2), (.int (2 : Int32)), (.ref a53)])) rfl rfl (hb hby own_h469)
 have N327 := Fr.snoc X323 N312 G56
 have F328 := Exa.wr W325 F240
 have F329 := Fld.other W325 F241 (Or.inl ne146)
 have F330 := Fld.other W325 F242 (Or.inl ne146)
 have F331 := Fld.other W325 F243 (Or.inl ne146)
 have F332 := Exa.wr W325 F244
 have F333 := Fld.other W325 F245 (Or.inl ne151)
 have F334 := Fld.other W325 F246 (Or.inl ne151)
 have F335 := Exa.wr W325 F247
 have F336 := F248.other W325 ne155
 have F337 := Exa.wr W325 F249
 have F338 := Fld.other W325 F250 (Or.inl ne158)
 have F339 := Fld.other W325 F251 (Or.inl ne158)
 have F340 := F252.other W325 ne161
 have F341 := Exa.wr W325 F253
 have F342 := Exa.wr W325 F254
 have F343 := Exa.wr W325 F255
 have F344 := Exa.wr W325 F256
 have F345 := Fld.other W325 F257 (Or.inl ne167)
 have F346 := Exa.wr W325 F258
 have F347 := Fld.other W325 F259 (Or.inl ne170)
 have F348 := Exa.wr W325 F260
 have F349 := Fld.other W325 F261 (Or.inl ne173)
 have Z351 : n0 ≤ h322.size := W325.size ▸ Z263
 have O352 := O264.wr W325 G56
 have P353 : Keep h0 h322 [a] := P265.wr W325 (Or.inr H055)
 have V354 : Arv Z h322 a53 kA46 .double (3 : Int32) [(.double u0), (.double u1), (.double u2)] (.double (0 : UInt64)) := Arv.set Ar314 q315 S316 Ng317 H318 Gf319 rfl W325 2 rfl (own_lt rfl)
 have k20 : own_J p e below T321 m 44 #[.val (.ref a), .val (.ref tp), .val (.ref b), .val (.ref g), .val (.ref a53), .val (.int (2 : Int32))] [] B_ := fun t_ hh => k19 t_ (st326 t_ hh)
 obtain ⟨cl355, Ar356, -, S357, Ng358, -, -⟩ := id V354
 have k21 : own_J p e below T321 m 52 #[.val (.ref a), .val (.ref tp), .val (.ref b), .val (.ref g), .val (.ref a53), .val (.int (3 : Int32))] [(.ref tp), (.ref a)] B_ := fun t_ hh => k20 t_ (by
  refine XS.iinc X323.here hx rfl (hb hby own_h470) rfl (l' := #[.val (.ref a), .val (.ref tp), .val (.ref b), .val (.ref g), .val (.ref a53), .val (.int (3 : Int32))]) rfl ?_
  refine XS.goto X323.here hx rfl (pc0 := 47) (pc' := 17) rfl (hb hby own_h471) (by decide) (by decide) ?_
  refine XS.iload X323.here hx rfl (hb hby own_h457) rfl ?_
  refine XS.aload X323.here hx rfl (hb hby own_h458) rfl rfl ?_
  refine X323.arraylength hx (by rw [e324]; exact Ar356.1) (State.isArrayOf_alike hZ.alike Ar356.2.1) (g := (mkF m 21 #[.val (.ref a), .val (.ref tp), .val (.ref b), .val (.ref g), .val (.ref a53), .val (.int (3 : Int32))] [(.ref a53), (.int (3 : Int32))])) rfl rfl (hb hby own_h459) _ ?_
  rw [len_of S357 Ng358]
  refine XS.icmpYes X323.here hx rfl (pc0 := 22) (pc' := 50) rfl (hb hby own_h460) rfl (by decide) (by decide) (by decide) ?_
  refine XS.aloadN X323.here hx rfl (hb hby own_h472) rfl rfl ?_
  refine XS.aloadN X323.here hx rfl (hb hby own_h473) rfl rfl ?_
  exact hh)
 obtain ⟨T359, h360, X361, e362, W363, st364⟩ := putF X323 hx hZ hown (host := "") (Or.inl (wT hw 164 rfl)) Via.refl e324 F329 F328 (Or.inr ⟨(wT hw 165 rfl), rfl, hnm⟩) (wT hw 122 rfl) (ty := .object "java/lang/String") (by decide) rfl rfl (g := (mkF m 52 #[.val (.ref a), .val (.ref tp), .val (.ref b), .val (.ref g), .val (.ref a53), .val (.int (3 : Int32))] [(.ref tp), (.ref a)])) rfl rfl (hb hby own_h474)
 have N365 := Fr.snoc X361 N327 f4_
 have F366 := Exa.wr W363 F328
 have F367 : Fld Z h360 a "com/example/level_slate/levelslate/TopicCandidates" "topic" "Ljava/lang/String;" (.ref tp) := Fld.same W363 F329
 have F368 := Fld.other W363 F330 (Or.inr (slot_ne (Or.inr (wT hw 251 rfl)) (Or.inr (wT hw 165 rfl)) (by decide) (t := (.object "java/util/List")) (t' := (.object "java/lang/String")) (by decide) (by decide)))
 have F369 := Fld.other W363 F331 (Or.inr (slot_ne (Or.inr (wT hw 253 rfl)) (Or.inr (wT hw 165 rfl)) (by decide) (t := (.array .double)) (t' := (.object "java/lang/String")) (by decide) (by decide)))
 have F370 := Exa.wr W363 F332
 have F371 := Fld.other W363 F333 (Or.inl f24_)
 have F372 := Fld.other W363 F334 (Or.inl f24_)
 have F373 := Exa.wr W363 F335
 have F374 := F336.other W363 f25_
 have F375 := Exa.wr W363 F337
 have F376 := Fld.other W363 F338 (Or.inl f26_)
 have F377 := Fld.other W363 F339 (Or.inl f26_)
 have F378 := F340.other W363 f27_
 have F379 := Exa.wr W363 F341
 have F380 := Exa.wr W363 F342
 have F381 := Exa.wr W363 F343
 have F382 := Exa.wr W363 F344
 have F383 := Fld.other W363 F345 (Or.inl f28_)
 have F384 := Exa.wr W363 F346
 have F385 := Fld.other W363 F347 (Or.inl f29_)
 have F386 := Exa.wr W363 F348
 have F387 := Fld.other W363 F349 (Or.inl f30_)
 have F389 := V354.other W363 (Ne.symm ne146)
 have Z390 : n0 ≤ h360.size := W363.size ▸ Z351
 have O391 := O352.wr W363 f4_
 have P392 : Keep h0 h360 [a] := P353.wr W363 (Or.inl (List.mem_of_getElem? (i := 0) rfl))
 have k22 : own_J p e below T359 m 55 #[.val (.ref a), .val (.ref tp), .val (.ref b), .val (.ref g), .val (.ref a53), .val (.int (3 : Int32))] [] B_ := fun t_ hh => k21 t_ (st364 t_ hh)
 have k23 : own_J p e below T359 m 57 #[.val (.ref a), .val (.ref tp), .val (.ref b), .val (.ref g), .val (.ref a53), .val (.int (3 : Int32))] [(.ref b), (.ref a)] B_ := fun t_ hh => k22 t_ (by
  refine XS.aloadN X361.here hx rfl (hb hby own_h475) rfl rfl ?_
  refine XS.aloadN X361.here hx rfl (hb hby own_h476) rfl rfl ?_
  exact hh)
 obtain ⟨_, _, ⟨T393, L394, k_395, n_396⟩, -, X397, ⟨Lc398, hQ399, l_400, y_401, z_402⟩, st403⟩ := Jvm.LawKit.callS X361 hx (y := (⟨"java/util/List", "copyOf", "(Ljava/util/Collection;)Ljava/util/List;"⟩ : MethodName)) hown (mvT hZ (wT hw 166 rfl)) (mvT hZ (wT hw 167 rfl)) (mvT hZ (wT hw 168 rfl)) (mvT hZ (wT hw 169 rfl)) (by decide) (backOf (W := 1) (rmCo3 l Z a0 hw [] b ea ke x0 x1 x2 em h360 n0 Z390 F370 F371 F372 F373 F374 F379 F380 F381 O391 sE mr hM) hZ (wT hw 169 rfl) (wT hw 168 rfl) (by decide) (by decide)) (g := (mkF m 57 #[.val (.ref a), .val (.ref tp), .val (.ref b), .val (.ref g), .val (.ref a53), .val (.int (3 : Int32))] [(.ref b), (.ref a)])) rfl (by rw [hml]; rfl) (argsL := [(.ref b)]) (rest := [(.ref a)]) (lenOf own_h431 rfl) rfl (by show 2 * 0 + _ ≤ _; exact Nat.le_of_eq rfl) (hb hby own_h477) (fun _ _ => ⟨rfl, e362, own_l rfl, own_l rfl⟩)
 dsimp only [Pt.U, Pt.locs, Pt.cells, Pt.slots] at X397 l_400 y_401 z_402 st403 hQ399
 subst l_400 y_401 z_402
 obtain ⟨r405, q406, kq407, rfl, N404, K416, F408, F409, F410, F411, F412, F413, F414, F415, -⟩ := hQ399
 have N417 := Fr.app N365 N404
 have H0418 : h0.size ≤ r405 := Nat.le_trans P392.1 F412
 have H0419 : h0.size ≤ q406 := Nat.le_trans P392.1 F413
 have F420 := F366.keep K416
 have F421 := F367.keep K416 nin0
 have F422 := F368.keep K416 nin0
 have F423 := F369.keep K416 nin0
 have F424 := F370.keep K416
 have F425 := F371.keep K416 nin0
 have F426 := F372.keep K416 nin0
 have F427 := F373.keep K416
 have F428 := F374.keep K416 nin0
 have F429 := F375.keep K416
 have F430 := F376.keep K416 nin0
 have F431 := F377.keep K416 nin0
 have F432 := F378.keep K416 nin0
 have F433 := F379.keep K416
 have F434 := F380.keep K416
 have F435 := F381.keep K416
 have F436 := F382.keep K416
 have F437 := F383.keep K416 nin0
 have F438 := F384.keep K416
 have F439 := F385.keep K416 nin0
 have F440 := F386.keep K416
 have F441 := F387.keep K416 nin0
 have F442 := F389.keep K416 nin0
 have Z443 : n0 ≤ T393.heap.size := Nat.le_trans Z390 K416.1
 have O444 := O391.keep K416 all0
 have P445 : Keep h0 T393.heap [a] := P392.trans K416 (fun _ q => nomatch q)
 have e446 : T393.heap = T393.heap := rfl
 have k24 : own_J p e below T393 m 60 #[.val (.ref a), .val (.ref tp), .val (.ref b), .val (.ref g), .val (.ref a53), .val (.int (3 : Int32))] [(.ref r405), (.ref a)] B_ := fun t_ hh => k23 t_ (st403 t_ hh)
 obtain ⟨T447, h448, X449, e450, W451, st452⟩ := putF X397 hx hZ hown (host := "") (Or.inl (wT hw 250 rfl)) Via.refl e446 F422 F420 (Or.inr ⟨(wT hw 251 rfl), rfl, hnm⟩) (wT hw 122 rfl) (ty := .object "java/util/List") (by decide) rfl rfl (g := (mkF m 60 #[.val (.ref a), .val (.ref tp), .val (.ref b), .val (.ref g), .val (.ref a53), .val (.int (3 : Int32))] [(.ref r405), (.ref a)])) rfl rfl (hb hby own_h478)
 have N453 := Fr.snoc X449 N417 f4_
 have F454 := Exa.wr W451 F420
 have F455 := Fld.other W451 F421 (Or.inr (slot_ne (Or.inr (wT hw 165 rfl)) (Or.inr (wT hw 251 rfl)) (by decide) (t := (.object "java/lang/String")) (t' := (.object "java/util/List")) (by decide) (by decide)))
 have F456 : Fld Z h448 a "com/example/level_slate/levelslate/TopicCandidates" "candidates" "Ljava/util/List;" (.ref r405) := Fld.same W451 F422
 have F457 := Fld.other W451 F423 (Or.inr (slot_ne (Or.inr (wT hw 253 rfl)) (Or.inr (wT hw 251 rfl)) (by decide) (t := (.array .double)) (t' := (.object "java/util/List")) (by decide) (by decide)))
 have F458 := Exa.wr W451 F424
 have F459 := Fld.other W451 F425 (Or.inl f24_)
 have F460 := Fld.other W451 F426 (Or.inl f24_)
 have F461 := Exa.wr W451 F427
 have F462 := F428.other W451 f25_
 have F463 := Exa.wr W451 F429
 have F464 := Fld.other W451 F430 (Or.inl f26_)
 have F465 := Fld.other W451 F431 (Or.inl f26_)
 have F466 := F432.other W451 f27_
 have F467 := Exa.wr W451 F433
 have F468 := Exa.wr W451 F434
 have F469 := Exa.wr W451 F435
 have F470 := Exa.wr W451 F436
 have F471 := Fld.other W451 F437 (Or.inl f28_)
 have F472 := Exa.wr W451 F438
 have F473 := Fld.other W451 F439 (Or.inl f29_)
 have F474 := Exa.wr W451 F440
 have F475 := Fld.other W451 F441 (Or.inl f30_)
 have F477 := F442.other W451 (Ne.symm ne146)
 have F478 := Exa.wr W451 F408
 have ne480 : a ≠ r405 := Nat.ne_of_lt (Nat.lt_of_lt_of_le F366.lt F412)
 have F479 := Fld.other W451 F409 (Or.inl (Ne.symm ne480))
 have ne482 : a ≠ q406 := Nat.ne_of_lt (Nat.lt_of_lt_of_le F366.lt F413)
 have F481 := F410.other W451 (Ne.symm ne482)
 have Z483 : n0 ≤ h448.size := W451.size ▸ Z443
 have O484 := O444.wr W451 f4_
 have P485 : Keep h0 h448 [a] := P445.wr W451 (Or.inl (List.mem_of_getElem? (i := 0) rfl))
 have k25 : own_J p e below T447 m 63 #[.val (.ref a), .val (.ref tp), .val (.ref b), .val (.ref g), .val (.ref a53), .val (.int (3 : Int32))] [] B_ := fun t_ hh => k24 t_ (st452 t_ hh)
 have k26 : own_J p e below T447 m 66 #[.val (.ref a), .val (.ref tp), .val (.ref b), .val (.ref g), .val (.ref a53), .val (.int (3 : Int32))] [(.ref a53), (.ref a)] B_ := fun t_ hh => k25 t_ (by
  refine XS.aloadN X449.here hx rfl (hb hby own_h479) rfl rfl ?_
  refine XS.aload X449.here hx rfl (hb hby own_h480) rfl rfl ?_
  exact hh)
 obtain ⟨T486, h487, X488, e489, W490, st491⟩ := putF X449 hx hZ hown (host := "") (Or.inl (wT hw 252 rfl)) Via.refl e450 F457 F454 (Or.inr ⟨(wT hw 253 rfl), rfl, hnm⟩) (wT hw 122 rfl) (ty := .array .double) (by decide) rfl rfl (g := (mkF m 66 #[.val (.ref a), .val (.ref tp), .val (.ref b), .val (.ref g), .val (.ref a53), .val (.int (3 : Int32))] [(.ref a53), (.ref a)])) rfl rfl (hb hby own_h481)
 have N492 := Fr.snoc X488 N453 f4_
 have F493 := Exa.wr W490 F454
 have F494 := Fld.other W490 F455 (Or.inr (slot_ne (Or.inr (wT hw 165 rfl)) (Or.inr (wT hw 253 rfl)) (by decide) (t := (.object "java/lang/String")) (t' := (.array .double)) (by decide) (by decide)))
 have F495 := Fld.other W490 F456 (Or.inr (slot_ne (Or.inr (wT hw 251 rfl)) (Or.inr (wT hw 253 rfl)) (by decide) (t := (.object "java/util/List")) (t' := (.array .double)) (by decide) (by decide)))
 have F496 : Fld Z h487 a "com/example/level_slate/levelslate/TopicCandidates" "runScores" "[D" (.ref a53) := Fld.same W490 F457
 have F497 := Exa.wr W490 F458
 have F498 := Fld.other W490 F459 (Or.inl f24_)
 have F499 := Fld.other W490 F460 (Or.inl f24_)
 have F500 := Exa.wr W490 F461
 have F501 := F462.other W490 f25_
 have F502 := Exa.wr W490 F463
 have F503 := Fld.other W490 F464 (Or.inl f26_)
 have F504 := Fld.other W490 F465 (Or.inl f26_)
 have F505 := F466.other W490 f27_
 have F506 := Exa.wr W490 F467
 have F507 := Exa.wr W490 F468
 have F508 := Exa.wr W490 F469
 have F509 := Exa.wr W490 F470
 have F510 := Fld.other W490 F471 (Or.inl f28_)
 have F511 := Exa.wr W490 F472
 have F512 := Fld.other W490 F473 (Or.inl f29_)
 have F513 := Exa.wr W490 F474
 have F514 := Fld.other W490 F475 (Or.inl f30_)
 have F516 := F477.other W490 (Ne.symm ne146)
 have F517 := Exa.wr W490 F478
 have F518 := Fld.other W490 F479 (Or.inl (Ne.symm ne480))
 have F519 := F481.other W490 (Ne.symm ne482)
 have Z520 : n0 ≤ h487.size := W490.size ▸ Z483
 have O521 := O484.wr W490 f4_
 have P522 : Keep h0 h487 [a] := P485.wr W490 (Or.inl (List.mem_of_getElem? (i := 0) rfl))
 have k27 : own_J p e below T486 m 69 #[.val (.ref a), .val (.ref tp), .val (.ref b), .val (.ref g), .val (.ref a53), .val (.int (3 : Int32))] [] B_ := fun t_ hh => k26 t_ (st491 t_ hh)
 obtain ⟨fs, hr, hrun, hended, hW, hsame⟩ := X488.leave (v := none) (fun _ => rfl)
 refine ⟨_, _, (own_from hB_ (k27 _ (X488.returnOut hx Bd.returns (hb hby own_h482) hr))), hrun, hended, _, _, rfl, ?_, ⟨_, rfl⟩, hW, hsame.mono (own_l rfl) (own_l rfl)⟩
 show Q_rmTC3 Z a tp b ea ke g f kf x0 x1 x2 d0 d1 d2 u0 u1 u2 em h0 n0 _ T486.heap _
 rw [e489]
 exact ⟨r405, q406, kq407, rfl, N492, P522, F493, F495, F517, F518, F519, trivial⟩
def Q_rmLg0 (Z : State) (a : Addr) (x : Addr) (h0 : Heap) (n0 : Nat) (v : Option Value) (h : Heap) (L : List Loc) : Prop := v = some (.ref x) ∧ Fr n0 L ∧ h = h0
theorem own_h483 : decode jdk_44_method_5_code 0 = .ok (.iload_n 1, 1) := by decide +kernel
theorem own_h484 : decode jdk_44_method_5_code 1 = .ok (.ifCond .ne 8, 3) := by decide +kernel
theorem own_h485 : decode jdk_44_method_5_code 4 = .ok (.aload_n 0, 1) := by decide +kernel
theorem own_h486 : decode jdk_44_method_5_code 5 = .ok (.getfield 13, 3) := by decide +kernel
theorem own_h487 : decode jdk_44_method_5_code 8 = .ok (.areturn, 1) := by decide +kernel
set_option maxRecDepth 65536 in
set_option maxHeartbeats 40000000 in
theorem rmLg0 (l : Launch) (Z : State) (a0 : Array Value) (hw : ∀ d ∈ tables_1, d.before a0 Z = true) (ws : List Jvm.Cond) (a : Addr) (x : Addr) (h0 : Heap) (n0 : Nat) (Z0 : n0 ≤ h0.size) (f0_ : Fld Z h0 a "java/util/ImmutableCollections$List12" "e0" "Ljava/lang/Object;" (.ref x))  :
    own_Met l (⟨"java/util/ImmutableCollections$List12", "get", "(I)Ljava/lang/Object;"⟩ : MethodName) jdk_44_method_5_code 2 (some (.object "java/lang/Object")) ws (rO 0 0 0 0) #[(.ref a), (.int (0 : Int32))] Z h0 (Q_rmLg0 Z a x h0 n0) := by
 refine MetFree.of_bodySF (plainFor_of_name own_h342) hisR ?_
 intro p e s m args below meth c s₁ Bd hml0 hP hK
 obtain ⟨rfl, hZ, hh⟩ := hP
 have hx := Bd.exec
 have hby := Bd.bytes
 have hml : c.maxLocals = 2 := hml0
 have hown : s.vm.findClass "java/util/ImmutableCollections$List12" = some m.cls := findClass_of_methodNamed Bd.named
 have hnm := (name_of_methodNamed Bd.named Bd.method).1
 have X0 : Stand p l e (rO 0 0 0 0) s m #[(.ref a), (.int (0 : Int32))] below meth c s₁ [] 0 0 := Stand.of_body Bd
 have e0 : s₁.heap = h0 := by rw [← hh, Bd.state]; rfl
 have N0 := Fr.nil n0
 obtain ⟨B_, hB_⟩ : ∃ z, z = s₁.setTop (entryFrame m #[(.ref a), (.int (0 : Int32))] 2) := ⟨_, rfl⟩
 have k0 : own_K p e below (s₁.setTop (mkF m 0 #[.val (.ref a), .val (.int (0 : Int32))] [])) B_ := by rw [hB_]; exact fun t k => castTop (by clear k; first | (simp [entryFrame, mkF, argsToLocals, Value.category, maxLocals]; done) | rfl) k
 have k1 : own_J p e below s₁ m 5 #[.val (.ref a), .val (.int (0 : Int32))] [(.ref a)] B_ := fun t_ hh => k0 t_ (by
  refine XS.iloadN X0.here hx rfl (hb hby own_h483) rfl ?_
  refine XS.ifNo X0.here hx rfl (hb hby own_h484) rfl (by decide) ?_
  refine XS.aloadN X0.here hx rfl (hb hby own_h485) rfl rfl ?_
  exact hh)
 obtain ⟨T21, X22, e23, st24⟩ := getF X0 hx hZ hown (host := "") (Or.inl (wT hw 246 rfl)) Via.refl e0 f0_ (g := (mkF m 5 #[.val (.ref a), .val (.int (0 : Int32))] [(.ref a)])) rfl rfl (hb hby own_h486)
 have k2 : own_J p e below T21 m 8 #[.val (.ref a), .val (.int (0 : Int32))] [(.ref x)] B_ := fun t_ hh => k1 t_ (st24 t_ hh)
 obtain ⟨fs, hr, hrun, hended, hW, hsame⟩ := X22.leave (v := some (.ref x)) (fun h => by rw [Bd.returns] at h; cases h)
 refine ⟨_, _, (own_from hB_ (k2 _ (retOut X22 hx (t := .object "java/lang/Object") Bd.returns rfl (Or.inr (Or.inr (Or.inr (Or.inr ⟨rfl, rfl, rfl⟩)))) (hb hby own_h487) hr))), hrun, hended, _, _, rfl, ?_, ⟨_, rfl⟩, hW, hsame.mono (own_l rfl) (own_l rfl)⟩
 show Q_rmLg0 Z a x h0 n0 _ T21.heap _
 rw [e23]
 exact ⟨rfl, N0, rfl⟩
def Q_rmLg1 (Z : State) (a : Addr) (x : Addr) (em : Addr) (h0 : Heap) (n0 : Nat) (v : Option Value) (h : Heap) (L : List Loc) : Prop := v = some (.ref x) ∧ Fr n0 L ∧ h = h0
theorem own_h488 : decode jdk_44_method_5_code 9 = .ok (.iload_n 1, 1) := by decide +kernel
theorem own_h489 : decode jdk_44_method_5_code 10 = .ok (.iconst 1, 1) := by decide +kernel
theorem own_h490 : decode jdk_44_method_5_code 11 = .ok (.if_icmp .ne 18, 3) := by decide +kernel
theorem own_h491 : decode jdk_44_method_5_code 14 = .ok (.aload_n 0, 1) := by decide +kernel
theorem own_h492 : decode jdk_44_method_5_code 15 = .ok (.getfield 24, 3) := by decide +kernel
theorem own_h493 : decode jdk_44_method_5_code 18 = .ok (.getstatic 19, 3) := by decide +kernel
theorem own_h494 : decode jdk_44_method_5_code 21 = .ok (.if_acmp .eq 8, 3) := by decide +kernel
theorem own_h495 : decode jdk_44_method_5_code 24 = .ok (.aload_n 0, 1) := by decide +kernel
theorem own_h496 : decode jdk_44_method_5_code 25 = .ok (.getfield 24, 3) := by decide +kernel
theorem own_h497 : decode jdk_44_method_5_code 28 = .ok (.areturn, 1) := by decide +kernel
set_option maxRecDepth 65536 in
set_option maxHeartbeats 40000000 in
theorem rmLg1 (l : Launch) (Z : State) (a0 : Array Value) (hw : ∀ d ∈ tables_1, d.before a0 Z = true) (ws : List Jvm.Cond) (a : Addr) (x : Addr) (em : Addr) (h0 : Heap) (n0 : Nat) (Z0 : n0 ≤ h0.size) (f0_ : Fld Z h0 a "java/util/ImmutableCollections$List12" "e1" "Ljava/lang/Object;" (.ref x)) (f1_ : Old Z n0 h0) (hne : x ≠ em) (sE : Sta Z Z.heap "java/util/ImmutableCollections" "EMPTY" "Ljava/lang/Object;" (.ref em)) :
    own_Met l (⟨"java/util/ImmutableCollections$List12", "get", "(I)Ljava/lang/Object;"⟩ : MethodName) jdk_44_method_5_code 2 (some (.object "java/lang/Object")) ws (rO 0 0 0 0) #[(.ref a), (.int (1 : Int32))] Z h0 (Q_rmLg1 Z a x em h0 n0) := by
 refine MetFree.of_bodySF (plainFor_of_name own_h342) hisR ?_
 intro p e s m args below meth c s₁ Bd hml0 hP hK
 obtain ⟨rfl, hZ, hh⟩ := hP
 have hx := Bd.exec
 have hby := Bd.bytes
 have hml : c.maxLocals = 2 := hml0
 have hown : s.vm.findClass "java/util/ImmutableCollections$List12" = some m.cls := findClass_of_methodNamed Bd.named
 have hnm := (name_of_methodNamed Bd.named Bd.method).1
 have X0 : Stand p l e (rO 0 0 0 0) s m #[(.ref a), (.int (1 : Int32))] below meth c s₁ [] 0 0 := Stand.of_body Bd
 have e0 : s₁.heap = h0 := by rw [← hh, Bd.state]; rfl
 have N0 := Fr.nil n0
 obtain ⟨B_, hB_⟩ : ∃ z, z = s₁.setTop (entryFrame m #[(.ref a), (.int (1 : Int32))] 2) := ⟨_, rfl⟩
 have k0 : own_K p e below (s₁.setTop (mkF m 0 #[.val (.ref a), .val (.int (1 : Int32))] [])) B_ := by rw [hB_]; exact fun t k => castTop (by clear k; first | (simp [entryFrame, mkF, argsToLocals, Value.category, maxLocals]; done) | rfl) k
 have k1 : own_J p e below s₁ m 15 #[.val (.ref a), .val (.int (1 : Int32))] [(.ref a)] B_ := fun t_ hh => k0 t_ (by
  refine XS.iloadN X0.here hx rfl (hb hby own_h483) rfl ?_
  refine XS.ifYes X0.here hx rfl (pc0 := 1) (pc' := 9) rfl (hb hby own_h484) rfl (by decide) (by decide) (by decide) ?_
  refine XS.iloadN X0.here hx rfl (hb hby own_h488) rfl ?_
  refine XS.iconst X0.here hx rfl (hb hby own_h489) ?_
  refine XS.icmpNo X0.here hx rfl (hb hby own_h490) rfl (by decide) ?_
  refine XS.aloadN X0.here hx rfl (hb hby own_h491) rfl rfl ?_
  exact hh)
 obtain ⟨T21, X22, e23, st24⟩ := getF X0 hx hZ hown (host := "") (Or.inl (wT hw 248 rfl)) Via.refl e0 f0_ (g := (mkF m 15 #[.val (.ref a), .val (.int (1 : Int32))] [(.ref a)])) rfl rfl (hb hby own_h492)
 have k2 : own_J p e below T21 m 18 #[.val (.ref a), .val (.int (1 : Int32))] [(.ref x)] B_ := fun t_ hh => k1 t_ (st24 t_ hh)
 obtain ⟨T25, X26, e27, st28⟩ := getS2 X22 hx hZ hown (host := "java/util/ImmutableCollections") (Or.inr (wT hw 309 rfl)) Via.refl e23 (Sta.ext f1_.2 sE) (g := (mkF m 18 #[.val (.ref a), .val (.int (1 : Int32))] [(.ref x)])) rfl (hb hby own_h493)
 have k3 : own_J p e below T25 m 21 #[.val (.ref a), .val (.int (1 : Int32))] [(.ref em), (.ref x)] B_ := fun t_ hh => k2 t_ (st28 t_ hh)
 have k4 : own_J p e below T25 m 25 #[.val (.ref a), .val (.int (1 : Int32))] [(.ref a)] B_ := fun t_ hh => k3 t_ (by
  refine RoadKit.acmp X26 hx (g := (mkF m 21 #[.val (.ref a), .val (.int (1 : Int32))] [(.ref em), (.ref x)])) rfl (x := (.ref x)) (y := (.ref em)) rfl rfl (pc0 := 21) (pc' := 24) (same := false) rfl (hb hby own_h494) rfl (by simp [hne]) (by decide) (by decide) ?_
  refine XS.aloadN X26.here hx rfl (hb hby own_h495) rfl rfl ?_
  exact hh)
 obtain ⟨T29, X30, e31, st32⟩ := getF X26 hx hZ hown (host := "") (Or.inl (wT hw 248 rfl)) Via.refl e27 f0_ (g := (mkF m 25 #[.val (.ref a), .val (.int (1 : Int32))] [(.ref a)])) rfl rfl (hb hby own_h496)
 have k5 : own_J p e below T29 m 28 #[.val (.ref a), .val (.int (1 : Int32))] [(.ref x)] B_ := fun t_ hh => k4 t_ (st32 t_ hh)
 obtain ⟨fs, hr, hrun, hended, hW, hsame⟩ := X30.leave (v := some (.ref x)) (fun h => by rw [Bd.returns] at h; cases h)
 refine ⟨_, _, (own_from hB_ (k5 _ (retOut X30 hx (t := .object "java/lang/Object") Bd.returns rfl (Or.inr (Or.inr (Or.inr (Or.inr ⟨rfl, rfl, rfl⟩)))) (hb hby own_h497) hr))), hrun, hended, _, _, rfl, ?_, ⟨_, rfl⟩, hW, hsame.mono (own_l rfl) (own_l rfl)⟩
 show Q_rmLg1 Z a x em h0 n0 _ T29.heap _
 rw [e31]
 exact ⟨rfl, N0, rfl⟩
def Q_rmNg0 (Z : State) (a : Addr) (ea : Addr) (ke : ClassId) (x0 : Addr) (x1 : Addr) (x2 : Addr) (h0 : Heap) (n0 : Nat) (v : Option Value) (h : Heap) (L : List Loc) : Prop := v = some (.ref x0) ∧ Fr n0 L ∧ h = h0
theorem own_h498 : decode jdk_45_method_4_code 0 = .ok (.aload_n 0, 1) := by decide +kernel
theorem own_h499 : decode jdk_45_method_4_code 1 = .ok (.getfield 7, 3) := by decide +kernel
theorem own_h500 : decode jdk_45_method_4_code 4 = .ok (.iload_n 1, 1) := by decide +kernel
theorem own_h501 : decode jdk_45_method_4_code 5 = .ok (.aaload, 1) := by decide +kernel
theorem own_h502 : decode jdk_45_method_4_code 6 = .ok (.areturn, 1) := by decide +kernel
set_option maxRecDepth 65536 in
set_option maxHeartbeats 40000000 in
theorem rmNg0 (l : Launch) (Z : State) (a0 : Array Value) (hw : ∀ d ∈ tables_1, d.before a0 Z = true) (ws : List Jvm.Cond) (a : Addr) (ea : Addr) (ke : ClassId) (x0 : Addr) (x1 : Addr) (x2 : Addr) (h0 : Heap) (n0 : Nat) (Z0 : n0 ≤ h0.size) (f0_ : Fld Z h0 a "java/util/ImmutableCollections$ListN" "elements" "[Ljava/lang/Object;" (.ref ea)) (f1_ : Arv Z h0 ea ke (.object "java/lang/Object") (3 : Int32) [(.ref x0), (.ref x1), (.ref x2)] .null)  :
    own_Met l (⟨"java/util/ImmutableCollections$ListN", "get", "(I)Ljava/lang/Object;"⟩ : MethodName) jdk_45_method_4_code 2 (some (.object "java/lang/Object")) ws (rO 0 0 0 0) #[(.ref a), (.int (0 : Int32))] Z h0 (Q_rmNg0 Z a ea ke x0 x1 x2 h0 n0) := by
 refine MetFree.of_bodySF (plainFor_of_name own_h365) hisR ?_
 intro p e s m args below meth c s₁ Bd hml0 hP hK
 obtain ⟨rfl, hZ, hh⟩ := hP
 have hx := Bd.exec
 have hby := Bd.bytes
 have hml : c.maxLocals = 2 := hml0
 have hown : s.vm.findClass "java/util/ImmutableCollections$ListN" = some m.cls := findClass_of_methodNamed Bd.named
 have hnm := (name_of_methodNamed Bd.named Bd.method).1
 have X0 : Stand p l e (rO 0 0 0 0) s m #[(.ref a), (.int (0 : Int32))] below meth c s₁ [] 0 0 := Stand.of_body Bd
 have e0 : s₁.heap = h0 := by rw [← hh, Bd.state]; rfl
 have N0 := Fr.nil n0
 obtain ⟨B_, hB_⟩ : ∃ z, z = s₁.setTop (entryFrame m #[(.ref a), (.int (0 : Int32))] 2) := ⟨_, rfl⟩
 have k0 : own_K p e below (s₁.setTop (mkF m 0 #[.val (.ref a), .val (.int (0 : Int32))] [])) B_ := by rw [hB_]; exact fun t k => castTop (by clear k; first | (simp [entryFrame, mkF, argsToLocals, Value.category, maxLocals]; done) | rfl) k
 have k1 : own_J p e below s₁ m 1 #[.val (.ref a), .val (.int (0 : Int32))] [(.ref a)] B_ := fun t_ hh => k0 t_ (by
  refine XS.aloadN X0.here hx rfl (hb hby own_h498) rfl rfl ?_
  exact hh)
 obtain ⟨T21, X22, e23, st24⟩ := getF X0 hx hZ hown (host := "") (Or.inl (wT hw 286 rfl)) Via.refl e0 f0_ (g := (mkF m 1 #[.val (.ref a), .val (.int (0 : Int32))] [(.ref a)])) rfl rfl (hb hby own_h499)
 have k2 : own_J p e below T21 m 4 #[.val (.ref a), .val (.int (0 : Int32))] [(.ref ea)] B_ := fun t_ hh => k1 t_ (st24 t_ hh)
 obtain ⟨cl25, Ar26, -, S27, Ng28, H29, -⟩ := id f1_
 have hin30 : ¬ ((0 : Int32) < 0 ∨ cl25.slots.size ≤ ((0 : Int32)).toNatClampNeg) := inb_of S27 (by decide)
 have hat31 : cl25.slots[((0 : Int32)).toNatClampNeg]? = some (.ref x0) := Has.at H29 hin30 rfl
 have k3 : own_J p e below T21 m 6 #[.val (.ref a), .val (.int (0 : Int32))] [(.ref x0)] B_ := fun t_ hh => k2 t_ (by
  refine XS.iloadN X22.here hx rfl (hb hby own_h500) rfl ?_
  refine X22.aaload hx (j := (0 : Int32)) (v := (.ref x0)) (by rw [e23]; exact Ar26.1) (State.isArrayOf_alike hZ.alike Ar26.2.1) rfl Ar26.2.2 hin30 hat31 (g := (mkF m 5 #[.val (.ref a), .val (.int (0 : Int32))] [(.int (0 : Int32)), (.ref ea)])) rfl rfl (hb hby own_h501) _ ?_
  exact hh)
 obtain ⟨fs, hr, hrun, hended, hW, hsame⟩ := X22.leave (v := some (.ref x0)) (fun h => by rw [Bd.returns] at h; cases h)
 refine ⟨_, _, (own_from hB_ (k3 _ (retOut X22 hx (t := .object "java/lang/Object") Bd.returns rfl (Or.inr (Or.inr (Or.inr (Or.inr ⟨rfl, rfl, rfl⟩)))) (hb hby own_h502) hr))), hrun, hended, _, _, rfl, ?_, ⟨_, rfl⟩, hW, hsame.mono (own_l rfl) (own_l rfl)⟩
 show Q_rmNg0 Z a ea ke x0 x1 x2 h0 n0 _ T21.heap _
 rw [e23]
 exact ⟨rfl, N0, rfl⟩
def Q_rmNg1 (Z : State) (a : Addr) (ea : Addr) (ke : ClassId) (x0 : Addr) (x1 : Addr) (x2 : Addr) (h0 : Heap) (n0 : Nat) (v : Option Value) (h : Heap) (L : List Loc) : Prop := v = some (.ref x1) ∧ Fr n0 L ∧ h = h0
set_option maxRecDepth 65536 in
set_option maxHeartbeats 40000000 in
theorem rmNg1 (l : Launch) (Z : State) (a0 : Array Value) (hw : ∀ d ∈ tables_1, d.before a0 Z = true) (ws : List Jvm.Cond) (a : Addr) (ea : Addr) (ke : ClassId) (x0 : Addr) (x1 : Addr) (x2 : Addr) (h0 : Heap) (n0 : Nat) (Z0 : n0 ≤ h0.size) (f0_ : Fld Z h0 a "java/util/ImmutableCollections$ListN" "elements" "[Ljava/lang/Object;" (.ref ea)) (f1_ : Arv Z h0 ea ke (.object "java/lang/Object") (3 : Int32) [(.ref x0), (.ref x1), (.ref x2)] .null)  :
    own_Met l (⟨"java/util/ImmutableCollections$ListN", "get", "(I)Ljava/lang/Object;"⟩ : MethodName) jdk_45_method_4_code 2 (some (.object "java/lang/Object")) ws (rO 0 0 0 0) #[(.ref a), (.int (1 : Int32))] Z h0 (Q_rmNg1 Z a ea ke x0 x1 x2 h0 n0) := by
 refine MetFree.of_bodySF (plainFor_of_name own_h365) hisR ?_
 intro p e s m args below meth c s₁ Bd hml0 hP hK
 obtain ⟨rfl, hZ, hh⟩ := hP
 have hx := Bd.exec
 have hby := Bd.bytes
 have hml : c.maxLocals = 2 := hml0
 have hown : s.vm.findClass "java/util/ImmutableCollections$ListN" = some m.cls := findClass_of_methodNamed Bd.named
 have hnm := (name_of_methodNamed Bd.named Bd.method).1
 have X0 : Stand p l e (rO 0 0 0 0) s m #[(.ref a), (.int (1 : Int32))] below meth c s₁ [] 0 0 := Stand.of_body Bd
 have e0 : s₁.heap = h0 := by rw [← hh, Bd.state]; rfl
 have N0 := Fr.nil n0
 obtain ⟨B_, hB_⟩ : ∃ z, z = s₁.setTop (entryFrame m #[(.ref a), (.int (1 : Int32))] 2) := ⟨_, rfl⟩
 have k0 : own_K p e below (s₁.setTop (mkF m 0 #[.val (.ref a), .val (.int (1 : Int32))] [])) B_ := by rw [hB_]; exact fun t k => castTop (by clear k; first | (simp [entryFrame, mkF, argsToLocals, Value.category, maxLocals]; done) | rfl) k
 have k1 : own_J p e below s₁ m 1 #[.val (.ref a), .val (.int (1 : Int32))] [(.ref a)] B_ := fun t_ hh => k0 t_ (by
  refine XS.aloadN X0.here hx rfl (hb hby own_h498) rfl rfl ?_
  exact hh)
 obtain ⟨T21, X22, e23, st24⟩ := getF X0 hx hZ hown (host := "") (Or.inl (wT hw 286 rfl)) Via.refl e0 f0_ (g := (mkF m 1 #[.val (.ref a), .val (.int (1 : Int32))] [(.ref a)])) rfl rfl (hb hby own_h499)
 have k2 : own_J p e below T21 m 4 #[.val (.ref a), .val (.int (1 : Int32))] [(.ref ea)] B_ := fun t_ hh => k1 t_ (st24 t_ hh)
 obtain ⟨cl25, Ar26, -, S27, Ng28, H29, -⟩ := id f1_
 have hin30 : ¬ ((1 : Int32) < 0 ∨ cl25.slots.size ≤ ((1 : Int32)).toNatClampNeg) := inb_of S27 (by decide)
 have hat31 : cl25.slots[((1 : Int32)).toNatClampNeg]? = some (.ref x1) := Has.at H29 hin30 rfl
 have k3 : own_J p e below T21 m 6 #[.val (.ref a), .val (.int (1 : Int32))] [(.ref x1)] B_ := fun t_ hh => k2 t_ (by
  refine XS.iloadN X22.here hx rfl (hb hby own_h500) rfl ?_
  refine X22.aaload hx (j := (1 : Int32)) (v := (.ref x1)) (by rw [e23]; exact Ar26.1) (State.isArrayOf_alike hZ.alike Ar26.2.1) rfl Ar26.2.2 hin30 hat31 (g := (mkF m 5 #[.val (.ref a), .val (.int (1 : Int32))] [(.int (1 : Int32)), (.ref ea)])) rfl rfl (hb hby own_h501) _ ?_
  exact hh)
 obtain ⟨fs, hr, hrun, hended, hW, hsame⟩ := X22.leave (v := some (.ref x1)) (fun h => by rw [Bd.returns] at h; cases h)
 refine ⟨_, _, (own_from hB_ (k3 _ (retOut X22 hx (t := .object "java/lang/Object") Bd.returns rfl (Or.inr (Or.inr (Or.inr (Or.inr ⟨rfl, rfl, rfl⟩)))) (hb hby own_h502) hr))), hrun, hended, _, _, rfl, ?_, ⟨_, rfl⟩, hW, hsame.mono (own_l rfl) (own_l rfl)⟩
 show Q_rmNg1 Z a ea ke x0 x1 x2 h0 n0 _ T21.heap _
 rw [e23]
 exact ⟨rfl, N0, rfl⟩
def Q_rmNg2 (Z : State) (a : Addr) (ea : Addr) (ke : ClassId) (x0 : Addr) (x1 : Addr) (x2 : Addr) (h0 : Heap) (n0 : Nat) (v : Option Value) (h : Heap) (L : List Loc) : Prop := v = some (.ref x2) ∧ Fr n0 L ∧ h = h0
set_option maxRecDepth 65536 in
set_option maxHeartbeats 40000000 in
theorem rmNg2 (l : Launch) (Z : State) (a0 : Array Value) (hw : ∀ d ∈ tables_1, d.before a0 Z = true) (ws : List Jvm.Cond) (a : Addr) (ea : Addr) (ke : ClassId) (x0 : Addr) (x1 : Addr) (x2 : Addr) (h0 : Heap) (n0 : Nat) (Z0 : n0 ≤ h0.size) (f0_ : Fld Z h0 a "java/util/ImmutableCollections$ListN" "elements" "[Ljava/lang/Object;" (.ref ea)) (f1_ : Arv Z h0 ea ke (.object "java/lang/Object") (3 : Int32) [(.ref x0), (.ref x1), (.ref x2)] .null)  :
    own_Met l (⟨"java/util/ImmutableCollections$ListN", "get", "(I)Ljava/lang/Object;"⟩ : MethodName) jdk_45_method_4_code 2 (some (.object "java/lang/Object")) ws (rO 0 0 0 0) #[(.ref a), (.int (2 : Int32))] Z h0 (Q_rmNg2 Z a ea ke x0 x1 x2 h0 n0) := by
 refine MetFree.of_bodySF (plainFor_of_name own_h365) hisR ?_
 intro p e s m args below meth c s₁ Bd hml0 hP hK
 obtain ⟨rfl, hZ, hh⟩ := hP
 have hx := Bd.exec
 have hby := Bd.bytes
 have hml : c.maxLocals = 2 := hml0
 have hown : s.vm.findClass "java/util/ImmutableCollections$ListN" = some m.cls := findClass_of_methodNamed Bd.named
 have hnm := (name_of_methodNamed Bd.named Bd.method).1
 have X0 : Stand p l e (rO 0 0 0 0) s m #[(.ref a), (.int (2 : Int32))] below meth c s₁ [] 0 0 := Stand.of_body Bd
 have e0 : s₁.heap = h0 := by rw [← hh, Bd.state]; rfl
 have N0 := Fr.nil n0
 obtain ⟨B_, hB_⟩ : ∃ z, z = s₁.setTop (entryFrame m #[(.ref a), (.int (2 : Int32))] 2) := ⟨_, rfl⟩
 have k0 : own_K p e below (s₁.setTop (mkF m 0 #[.val (.ref a), .val (.int (2 : Int32))] [])) B_ := by rw [hB_]; exact fun t k => castTop (by clear k; first | (simp [entryFrame, mkF, argsToLocals, Value.category, maxLocals]; done) | rfl) k
 have k1 : own_J p e below s₁ m 1 #[.val (.ref a), .val (.int (2 : Int32))] [(.ref a)] B_ := fun t_ hh => k0 t_ (by
  refine XS.aloadN X0.here hx rfl (hb hby own_h498) rfl rfl ?_
  exact hh)
 obtain ⟨T21, X22, e23, st24⟩ := getF X0 hx hZ hown (host := "") (Or.inl (wT hw 286 rfl)) Via.refl e0 f0_ (g := (mkF m 1 #[.val (.ref a), .val (.int (2 : Int32))] [(.ref a)])) rfl rfl (hb hby own_h499)
 have k2 : own_J p e below T21 m 4 #[.val (.ref a), .val (.int (2 : Int32))] [(.ref ea)] B_ := fun t_ hh => k1 t_ (st24 t_ hh)
 obtain ⟨cl25, Ar26, -, S27, Ng28, H29, -⟩ := id f1_
 have hin30 : ¬ ((2 : Int32) < 0 ∨ cl25.slots.size ≤ ((2 : Int32)).toNatClampNeg) := inb_of S27 (by decide)
 have hat31 : cl25.slots[((2 : Int32)).toNatClampNeg]? = some (.ref x2) := Has.at H29 hin30 rfl
 have k3 : own_J p e below T21 m 6 #[.val (.ref a), .val (.int (2 : Int32))] [(.ref x2)] B_ := fun t_ hh => k2 t_ (by
  refine XS.iloadN X22.here hx rfl (hb hby own_h500) rfl ?_
  refine X22.aaload hx (j := (2 : Int32)) (v := (.ref x2)) (by rw [e23]; exact Ar26.1) (State.isArrayOf_alike hZ.alike Ar26.2.1) rfl Ar26.2.2 hin30 hat31 (g := (mkF m 5 #[.val (.ref a), .val (.int (2 : Int32))] [(.int (2 : Int32)), (.ref ea)])) rfl rfl (hb hby own_h501) _ ?_
  exact hh)
 obtain ⟨fs, hr, hrun, hended, hW, hsame⟩ := X22.leave (v := some (.ref x2)) (fun h => by rw [Bd.returns] at h; cases h)
 refine ⟨_, _, (own_from hB_ (k3 _ (retOut X22 hx (t := .object "java/lang/Object") Bd.returns rfl (Or.inr (Or.inr (Or.inr (Or.inr ⟨rfl, rfl, rfl⟩)))) (hb hby own_h502) hr))), hrun, hended, _, _, rfl, ?_, ⟨_, rfl⟩, hW, hsame.mono (own_l rfl) (own_l rfl)⟩
 show Q_rmNg2 Z a ea ke x0 x1 x2 h0 n0 _ T21.heap _
 rw [e23]
 exact ⟨rfl, N0, rfl⟩
def Q_rmGc20 (Z : State) (a : Addr) (r : Addr) (x : Addr) (h0 : Heap) (n0 : Nat) (v : Option Value) (h : Heap) (L : List Loc) : Prop := v = some (.ref x) ∧ Fr n0 L ∧ h = h0
theorem own_h503 : decode prog_14_method_4_code 0 = .ok (.aload_n 0, 1) := by decide +kernel
theorem own_h504 : decode prog_14_method_4_code 1 = .ok (.getfield 33, 3) := by decide +kernel
theorem own_h505 : decode prog_14_method_4_code 4 = .ok (.iload_n 1, 1) := by decide +kernel
theorem own_h506 : decode prog_14_method_4_code 5 = .ok (.invokeinterface 13 2, 5) := by decide +kernel
theorem own_h507 : decode prog_14_method_4_code 10 = .ok (.checkcast 41, 3) := by decide +kernel
theorem own_h508 : decode prog_14_method_4_code 13 = .ok (.areturn, 1) := by decide +kernel
set_option maxRecDepth 65536 in
set_option maxHeartbeats 40000000 in
theorem rmGc20 (l : Launch) (Z : State) (a0 : Array Value) (hw : ∀ d ∈ tables_1, d.before a0 Z = true) (ws : List Jvm.Cond) (a : Addr) (r : Addr) (x : Addr) (h0 : Heap) (n0 : Nat) (Z0 : n0 ≤ h0.size) (f0_ : Fld Z h0 a "com/example/level_slate/levelslate/TopicCandidates" "candidates" "Ljava/util/List;" (.ref r)) (f1_ : Exa Z h0 r "java/util/ImmutableCollections$List12") (f2_ : Fld Z h0 r "java/util/ImmutableCollections$List12" "e0" "Ljava/lang/Object;" (.ref x)) (f3_ : Exa Z h0 x "java/lang/String")  :
    own_Met l (⟨"com/example/level_slate/levelslate/TopicCandidates", "getCandidate", "(I)Ljava/lang/String;"⟩ : MethodName) prog_14_method_4_code 2 (some (.object "java/lang/String")) ws (rO 1 0 0 13) #[(.ref a), (.int (0 : Int32))] Z h0 (Q_rmGc20 Z a r x h0 n0) := by
 refine MetFree.of_bodySF (plainFor_of_name own_h447) hisR ?_
 intro p e s m args below meth c s₁ Bd hml0 hP hK
 obtain ⟨rfl, hZ, hh⟩ := hP
 have hx := Bd.exec
 have hby := Bd.bytes
 have hml : c.maxLocals = 2 := hml0
 have hown : s.vm.findClass "com/example/level_slate/levelslate/TopicCandidates" = some m.cls := findClass_of_methodNamed Bd.named
 have hnm := (name_of_methodNamed Bd.named Bd.method).1
 have X0 : Stand p l e (rO 1 0 0 13) s m #[(.ref a), (.int (0 : Int32))] below meth c s₁ [] 0 0 := Stand.of_body Bd
 have e0 : s₁.heap = h0 := by rw [← hh, Bd.state]; rfl
 have N0 := Fr.nil n0
 obtain ⟨B_, hB_⟩ : ∃ z, z = s₁.setTop (entryFrame m #[(.ref a), (.int (0 : Int32))] 2) := ⟨_, rfl⟩
 have k0 : own_K p e below (s₁.setTop (mkF m 0 #[.val (.ref a), .val (.int (0 : Int32))] [])) B_ := by rw [hB_]; exact fun t k => castTop (by clear k; first | (simp [entryFrame, mkF, argsToLocals, Value.category, maxLocals]; done) | rfl) k
 have k1 : own_J p e below s₁ m 1 #[.val (.ref a), .val (.int (0 : Int32))] [(.ref a)] B_ := fun t_ hh => k0 t_ (by
  refine XS.aloadN X0.here hx rfl (hb hby own_h503) rfl rfl ?_
  exact hh)
 obtain ⟨T21, X22, e23, st24⟩ := getF X0 hx hZ hown (host := "") (Or.inl (wT hw 250 rfl)) Via.refl e0 f0_ (g := (mkF m 1 #[.val (.ref a), .val (.int (0 : Int32))] [(.ref a)])) rfl rfl (hb hby own_h504)
 have k2 : own_J p e below T21 m 4 #[.val (.ref a), .val (.int (0 : Int32))] [(.ref r)] B_ := fun t_ hh => k1 t_ (st24 t_ hh)
 have k3 : own_J p e below T21 m 5 #[.val (.ref a), .val (.int (0 : Int32))] [(.int (0 : Int32)), (.ref r)] B_ := fun t_ hh => k2 t_ (by
  refine XS.iloadN X22.here hx rfl (hb hby own_h505) rfl ?_
  exact hh)
 obtain ⟨cq36, kq37, qa38, qb39, qc40⟩ := isOf hZ e23 f1_
 obtain ⟨_, _, ⟨T25, L26, k_27, n_28⟩, -, X29, ⟨Lc30, hQ31, l_32, y_33, z_34⟩, st35⟩ := X22.interfaceBack hx (xi := (⟨"java/util/List", "get", "(I)Ljava/lang/Object;"⟩ : MethodName)) (y := (⟨"java/util/ImmutableCollections$List12", "get", "(I)Ljava/lang/Object;"⟩ : MethodName)) hown (mvT hZ (wT hw 137 rfl)) (mvT hZ (wT hw 138 rfl)) (mvT hZ (wT hw 139 rfl)) (mvT hZ (wT hw 259 rfl)) (mvT hZ (wT hw 260 rfl)) (mvT hZ (wT hw 261 rfl)) (mvT hZ (wT hw 262 rfl)) (mvT hZ (wT hw 263 rfl)) (by decide) (backOf (W := 0) (rmLg0 l Z a0 hw [] r x h0 n0 Z0 f2_ ) hZ (wT hw 264 rfl) (wT hw 224 rfl) (by decide) (by decide)) qa38 qb39 qc40 (g := (mkF m 5 #[.val (.ref a), .val (.int (0 : Int32))] [(.int (0 : Int32)), (.ref r)])) rfl (by rw [hml]; rfl) (Steps.refl _) (argsL := [(.int (0 : Int32))]) (rest := []) (lenOf own_h297 rfl) rfl (by show 2 * 0 + _ ≤ _; exact Nat.le_of_eq rfl) (hb hby own_h506) (fun _ _ => ⟨rfl, e23, own_l rfl, own_l rfl⟩)
 dsimp only [Pt.U, Pt.locs, Pt.cells, Pt.slots] at X29 l_32 y_33 z_34 st35 hQ31
 subst l_32 y_33 z_34
 obtain ⟨rfl, N41, e42⟩ := hQ31
 have N43 := Fr.app N0 N41
 have k4 : own_J p e below T25 m 10 #[.val (.ref a), .val (.int (0 : Int32))] [(.ref x)] B_ := fun t_ hh => k3 t_ (st35.trans hh)
 obtain ⟨T44, X45, e46, st47⟩ := castY X29 hx hZ hown (wT hw 265 rfl) e42 (Ins.self f3_) (g := (mkF m 10 #[.val (.ref a), .val (.int (0 : Int32))] [(.ref x)])) rfl rfl (hb hby own_h507)
 have k5 : own_J p e below T44 m 13 #[.val (.ref a), .val (.int (0 : Int32))] [(.ref x)] B_ := fun t_ hh => k4 t_ (st47 t_ hh)
 obtain ⟨fs, hr, hrun, hended, hW, hsame⟩ := X45.leave (v := some (.ref x)) (fun h => by rw [Bd.returns] at h; cases h)
 refine ⟨_, _, (own_from hB_ (k5 _ (retOut X45 hx (t := .object "java/lang/String") Bd.returns rfl (Or.inr (Or.inr (Or.inr (Or.inr ⟨rfl, rfl, rfl⟩)))) (hb hby own_h508) hr))), hrun, hended, _, _, rfl, ?_, ⟨_, rfl⟩, hW, hsame.mono (own_l rfl) (own_l rfl)⟩
 show Q_rmGc20 Z a r x h0 n0 _ T44.heap _
 rw [e46]
 exact ⟨rfl, N43, rfl⟩
def Q_rmGc21 (Z : State) (a : Addr) (r : Addr) (x : Addr) (em : Addr) (h0 : Heap) (n0 : Nat) (v : Option Value) (h : Heap) (L : List Loc) : Prop := v = some (.ref x) ∧ Fr n0 L ∧ h = h0
set_option maxRecDepth 65536 in
set_option maxHeartbeats 40000000 in
theorem rmGc21 (l : Launch) (Z : State) (a0 : Array Value) (hw : ∀ d ∈ tables_1, d.before a0 Z = true) (ws : List Jvm.Cond) (a : Addr) (r : Addr) (x : Addr) (em : Addr) (h0 : Heap) (n0 : Nat) (Z0 : n0 ≤ h0.size) (f0_ : Fld Z h0 a "com/example/level_slate/levelslate/TopicCandidates" "candidates" "Ljava/util/List;" (.ref r)) (f1_ : Exa Z h0 r "java/util/ImmutableCollections$List12") (f2_ : Fld Z h0 r "java/util/ImmutableCollections$List12" "e1" "Ljava/lang/Object;" (.ref x)) (f3_ : Exa Z h0 x "java/lang/String") (f4_ : Old Z n0 h0) (hne : x ≠ em) (sE : Sta Z Z.heap "java/util/ImmutableCollections" "EMPTY" "Ljava/lang/Object;" (.ref em)) :
    own_Met l (⟨"com/example/level_slate/levelslate/TopicCandidates", "getCandidate", "(I)Ljava/lang/String;"⟩ : MethodName) prog_14_method_4_code 2 (some (.object "java/lang/String")) ws (rO 1 0 0 13) #[(.ref a), (.int (1 : Int32))] Z h0 (Q_rmGc21 Z a r x em h0 n0) := by
 refine MetFree.of_bodySF (plainFor_of_name own_h447) hisR ?_
 intro p e s m args below meth c s₁ Bd hml0 hP hK
 obtain ⟨rfl, hZ, hh⟩ := hP
 have hx := Bd.exec
 have hby := Bd.bytes
 have hml : c.maxLocals = 2 := hml0
 have hown : s.vm.findClass "com/example/level_slate/levelslate/TopicCandidates" = some m.cls := findClass_of_methodNamed Bd.named
 have hnm := (name_of_methodNamed Bd.named Bd.method).1
 have X0 : Stand p l e (rO 1 0 0 13) s m #[(.ref a), (.int (1 : Int32))] below meth c s₁ [] 0 0 := Stand.of_body Bd
 have e0 : s₁.heap = h0 := by rw [← hh, Bd.state]; rfl
 have N0 := Fr.nil n0
 obtain ⟨B_, hB_⟩ : ∃ z, z = s₁.setTop (entryFrame m #[(.ref a), (.int (1 : Int32))] 2) := ⟨_, rfl⟩
 have k0 : own_K p e below (s₁.setTop (mkF m 0 #[.val (.ref a), .val (.int (1 : Int32))] [])) B_ := by rw [hB_]; exact fun t k => castTop (by clear k; first | (simp [entryFrame, mkF, argsToLocals, Value.category, maxLocals]; done) | rfl) k
 have k1 : own_J p e below s₁ m 1 #[.val (.ref a), .val (.int (1 : Int32))] [(.ref a)] B_ := fun t_ hh => k0 t_ (by
  refine XS.aloadN X0.here hx rfl (hb hby own_h503) rfl rfl ?_
  exact hh)
 obtain ⟨T21, X22, e23, st24⟩ := getF X0 hx hZ hown (host := "") (Or.inl (wT hw 250 rfl)) Via.refl e0 f0_ (g := (mkF m 1 #[.val (.ref a), .val (.int (1 : Int32))] [(.ref a)])) rfl rfl (hb hby own_h504)
 have k2 : own_J p e below T21 m 4 #[.val (.ref a), .val (.int (1 : Int32))] [(.ref r)] B_ := fun t_ hh => k1 t_ (st24 t_ hh)
 have k3 : own_J p e below T21 m 5 #[.val (.ref a), .val (.int (1 : Int32))] [(.int (1 : Int32)), (.ref r)] B_ := fun t_ hh => k2 t_ (by
  refine XS.iloadN X22.here hx rfl (hb hby own_h505) rfl ?_
  exact hh)
 obtain ⟨cq36, kq37, qa38, qb39, qc40⟩ := isOf hZ e23 f1_
 obtain ⟨_, _, ⟨T25, L26, k_27, n_28⟩, -, X29, ⟨Lc30, hQ31, l_32, y_33, z_34⟩, st35⟩ := X22.interfaceBack hx (xi := (⟨"java/util/List", "get", "(I)Ljava/lang/Object;"⟩ : MethodName)) (y := (⟨"java/util/ImmutableCollections$List12", "get", "(I)Ljava/lang/Object;"⟩ : MethodName)) hown (mvT hZ (wT hw 137 rfl)) (mvT hZ (wT hw 138 rfl)) (mvT hZ (wT hw 139 rfl)) (mvT hZ (wT hw 259 rfl)) (mvT hZ (wT hw 260 rfl)) (mvT hZ (wT hw 261 rfl)) (mvT hZ (wT hw 262 rfl)) (mvT hZ (wT hw 263 rfl)) (by decide) (backOf (W := 0) (rmLg1 l Z a0 hw [] r x em h0 n0 Z0 f2_ f4_ hne sE) hZ (wT hw 264 rfl) (wT hw 224 rfl) (by decide) (by decide)) qa38 qb39 qc40 (g := (mkF m 5 #[.val (.ref a), .val (.int (1 : Int32))] [(.int (1 : Int32)), (.ref r)])) rfl (by rw [hml]; rfl) (Steps.refl _) (argsL := [(.int (1 : Int32))]) (rest := []) (lenOf own_h297 rfl) rfl (by show 2 * 0 + _ ≤ _; exact Nat.le_of_eq rfl) (hb hby own_h506) (fun _ _ => ⟨rfl, e23, own_l rfl, own_l rfl⟩)
 dsimp only [Pt.U, Pt.locs, Pt.cells, Pt.slots] at X29 l_32 y_33 z_34 st35 hQ31
 subst l_32 y_33 z_34
 obtain ⟨rfl, N41, e42⟩ := hQ31
 have N43 := Fr.app N0 N41
 have k4 : own_J p e below T25 m 10 #[.val (.ref a), .val (.int (1 : Int32))] [(.ref x)] B_ := fun t_ hh => k3 t_ (st35.trans hh)
 obtain ⟨T44, X45, e46, st47⟩ := castY X29 hx hZ hown (wT hw 265 rfl) e42 (Ins.self f3_) (g := (mkF m 10 #[.val (.ref a), .val (.int (1 : Int32))] [(.ref x)])) rfl rfl (hb hby own_h507)
 have k5 : own_J p e below T44 m 13 #[.val (.ref a), .val (.int (1 : Int32))] [(.ref x)] B_ := fun t_ hh => k4 t_ (st47 t_ hh)
 obtain ⟨fs, hr, hrun, hended, hW, hsame⟩ := X45.leave (v := some (.ref x)) (fun h => by rw [Bd.returns] at h; cases h)
 refine ⟨_, _, (own_from hB_ (k5 _ (retOut X45 hx (t := .object "java/lang/String") Bd.returns rfl (Or.inr (Or.inr (Or.inr (Or.inr ⟨rfl, rfl, rfl⟩)))) (hb hby own_h508) hr))), hrun, hended, _, _, rfl, ?_, ⟨_, rfl⟩, hW, hsame.mono (own_l rfl) (own_l rfl)⟩
 show Q_rmGc21 Z a r x em h0 n0 _ T44.heap _
 rw [e46]
 exact ⟨rfl, N43, rfl⟩
def Q_rmGcN0 (Z : State) (a : Addr) (r : Addr) (ea : Addr) (ke : ClassId) (x0 : Addr) (x1 : Addr) (x2 : Addr) (h0 : Heap) (n0 : Nat) (v : Option Value) (h : Heap) (L : List Loc) : Prop := v = some (.ref x0) ∧ Fr n0 L ∧ h = h0
set_option maxRecDepth 65536 in
set_option maxHeartbeats 40000000 in
theorem rmGcN0 (l : Launch) (Z : State) (a0 : Array Value) (hw : ∀ d ∈ tables_1, d.before a0 Z = true) (ws : List Jvm.Cond) (a : Addr) (r : Addr) (ea : Addr) (ke : ClassId) (x0 : Addr) (x1 : Addr) (x2 : Addr) (h0 : Heap) (n0 : Nat) (Z0 : n0 ≤ h0.size) (f0_ : Fld Z h0 a "com/example/level_slate/levelslate/TopicCandidates" "candidates" "Ljava/util/List;" (.ref r)) (f1_ : Exa Z h0 r "java/util/ImmutableCollections$ListN") (f2_ : Fld Z h0 r "java/util/ImmutableCollections$ListN" "elements" "[Ljava/lang/Object;" (.ref ea)) (f3_ : Arv Z h0 ea ke (.object "java/lang/Object") (3 : Int32) [(.ref x0), (.ref x1), (.ref x2)] .null) (f4_ : Exa Z h0 x0 "java/lang/String")  :
    own_Met l (⟨"com/example/level_slate/levelslate/TopicCandidates", "getCandidate", "(I)Ljava/lang/String;"⟩ : MethodName) prog_14_method_4_code 2 (some (.object "java/lang/String")) ws (rO 1 0 0 13) #[(.ref a), (.int (0 : Int32))] Z h0 (Q_rmGcN0 Z a r ea ke x0 x1 x2 h0 n0) := by
 refine MetFree.of_bodySF (plainFor_of_name own_h447) hisR ?_
 intro p e s m args below meth c s₁ Bd hml0 hP hK
 obtain ⟨rfl, hZ, hh⟩ := hP
 have hx := Bd.exec
 have hby := Bd.bytes
 have hml : c.maxLocals = 2 := hml0
 have hown : s.vm.findClass "com/example/level_slate/levelslate/TopicCandidates" = some m.cls := findClass_of_methodNamed Bd.named
 have hnm := (name_of_methodNamed Bd.named Bd.method).1
 have X0 : Stand p l e (rO 1 0 0 13) s m #[(.ref a), (.int (0 : Int32))] below meth c s₁ [] 0 0 := Stand.of_body Bd
 have e0 : s₁.heap = h0 := by rw [← hh, Bd.state]; rfl
 have N0 := Fr.nil n0
 obtain ⟨B_, hB_⟩ : ∃ z, z = s₁.setTop (entryFrame m #[(.ref a), (.int (0 : Int32))] 2) := ⟨_, rfl⟩
 have k0 : own_K p e below (s₁.setTop (mkF m 0 #[.val (.ref a), .val (.int (0 : Int32))] [])) B_ := by rw [hB_]; exact fun t k => castTop (by clear k; first | (simp [entryFrame, mkF, argsToLocals, Value.category, maxLocals]; done) | rfl) k
 have k1 : own_J p e below s₁ m 1 #[.val (.ref a), .val (.int (0 : Int32))] [(.ref a)] B_ := fun t_ hh => k0 t_ (by
  refine XS.aloadN X0.here hx rfl (hb hby own_h503) rfl rfl ?_
  exact hh)
 obtain ⟨T21, X22, e23, st24⟩ := getF X0 hx hZ hown (host := "") (Or.inl (wT hw 250 rfl)) Via.refl e0 f0_ (g := (mkF m 1 #[.val (.ref a), .val (.int (0 : Int32))] [(.ref a)])) rfl rfl (hb hby own_h504)
 have k2 : own_J p e below T21 m 4 #[.val (.ref a), .val (.int (0 : Int32))] [(.ref r)] B_ := fun t_ hh => k1 t_ (st24 t_ hh)
 have k3 : own_J p e below T21 m 5 #[.val (.ref a), .val (.int (0 : Int32))] [(.int (0 : Int32)), (.ref r)] B_ := fun t_ hh => k2 t_ (by
  refine XS.iloadN X22.here hx rfl (hb hby own_h505) rfl ?_
  exact hh)
 obtain ⟨cq36, kq37, qa38, qb39, qc40⟩ := isOf hZ e23 f1_
 obtain ⟨_, _, ⟨T25, L26, k_27, n_28⟩, -, X29, ⟨Lc30, hQ31, l_32, y_33, z_34⟩, st35⟩ := X22.interfaceBack hx (xi := (⟨"java/util/List", "get", "(I)Ljava/lang/Object;"⟩ : MethodName)) (y := (⟨"java/util/ImmutableCollections$ListN", "get", "(I)Ljava/lang/Object;"⟩ : MethodName)) hown (mvT hZ (wT hw 137 rfl)) (mvT hZ (wT hw 138 rfl)) (mvT hZ (wT hw 139 rfl)) (mvT hZ (wT hw 290 rfl)) (mvT hZ (wT hw 291 rfl)) (mvT hZ (wT hw 292 rfl)) (mvT hZ (wT hw 293 rfl)) (mvT hZ (wT hw 294 rfl)) (by decide) (backOf (W := 0) (rmNg0 l Z a0 hw [] r ea ke x0 x1 x2 h0 n0 Z0 f2_ f3_ ) hZ (wT hw 295 rfl) (wT hw 277 rfl) (by decide) (by decide)) qa38 qb39 qc40 (g := (mkF m 5 #[.val (.ref a), .val (.int (0 : Int32))] [(.int (0 : Int32)), (.ref r)])) rfl (by rw [hml]; rfl) (Steps.refl _) (argsL := [(.int (0 : Int32))]) (rest := []) (lenOf own_h297 rfl) rfl (by show 2 * 0 + _ ≤ _; exact Nat.le_of_eq rfl) (hb hby own_h506) (fun _ _ => ⟨rfl, e23, own_l rfl, own_l rfl⟩)
 dsimp only [Pt.U, Pt.locs, Pt.cells, Pt.slots] at X29 l_32 y_33 z_34 st35 hQ31
 subst l_32 y_33 z_34
 obtain ⟨rfl, N41, e42⟩ := hQ31
 have N43 := Fr.app N0 N41
 have k4 : own_J p e below T25 m 10 #[.val (.ref a), .val (.int (0 : Int32))] [(.ref x0)] B_ := fun t_ hh => k3 t_ (st35.trans hh)
 obtain ⟨T44, X45, e46, st47⟩ := castY X29 hx hZ hown (wT hw 265 rfl) e42 (Ins.self f4_) (g := (mkF m 10 #[.val (.ref a), .val (.int (0 : Int32))] [(.ref x0)])) rfl rfl (hb hby own_h507)
 have k5 : own_J p e below T44 m 13 #[.val (.ref a), .val (.int (0 : Int32))] [(.ref x0)] B_ := fun t_ hh => k4 t_ (st47 t_ hh)
 obtain ⟨fs, hr, hrun, hended, hW, hsame⟩ := X45.leave (v := some (.ref x0)) (fun h => by rw [Bd.returns] at h; cases h)
 refine ⟨_, _, (own_from hB_ (k5 _ (retOut X45 hx (t := .object "java/lang/String") Bd.returns rfl (Or.inr (Or.inr (Or.inr (Or.inr ⟨rfl, rfl, rfl⟩)))) (hb hby own_h508) hr))), hrun, hended, _, _, rfl, ?_, ⟨_, rfl⟩, hW, hsame.mono (own_l rfl) (own_l rfl)⟩
 show Q_rmGcN0 Z a r ea ke x0 x1 x2 h0 n0 _ T44.heap _
 rw [e46]
 exact ⟨rfl, N43, rfl⟩
def Q_rmGcN1 (Z : State) (a : Addr) (r : Addr) (ea : Addr) (ke : ClassId) (x0 : Addr) (x1 : Addr) (x2 : Addr) (h0 : Heap) (n0 : Nat) (v : Option Value) (h : Heap) (L : List Loc) : Prop := v = some (.ref x1) ∧ Fr n0 L ∧ h = h0
set_option maxRecDepth 65536 in
set_option maxHeartbeats 40000000 in
theorem rmGcN1 (l : Launch) (Z : State) (a0 : Array Value) (hw : ∀ d ∈ tables_1, d.before a0 Z = true) (ws : List Jvm.Cond) (a : Addr) (r : Addr) (ea : Addr) (ke : ClassId) (x0 : Addr) (x1 : Addr) (x2 : Addr) (h0 : Heap) (n0 : Nat) (Z0 : n0 ≤ h0.size) (f0_ : Fld Z h0 a "com/example/level_slate/levelslate/TopicCandidates" "candidates" "Ljava/util/List;" (.ref r)) (f1_ : Exa Z h0 r "java/util/ImmutableCollections$ListN") (f2_ : Fld Z h0 r "java/util/ImmutableCollections$ListN" "elements" "[Ljava/lang/Object;" (.ref ea)) (f3_ : Arv Z h0 ea ke (.object "java/lang/Object") (3 : Int32) [(.ref x0), (.ref x1), (.ref x2)] .null) (f4_ : Exa Z h0 x1 "java/lang/String")  :
    own_Met l (⟨"com/example/level_slate/levelslate/TopicCandidates", "getCandidate", "(I)Ljava/lang/String;"⟩ : MethodName) prog_14_method_4_code 2 (some (.object "java/lang/String")) ws (rO 1 0 0 13) #[(.ref a), (.int (1 : Int32))] Z h0 (Q_rmGcN1 Z a r ea ke x0 x1 x2 h0 n0) := by
 refine MetFree.of_bodySF (plainFor_of_name own_h447) hisR ?_
 intro p e s m args below meth c s₁ Bd hml0 hP hK
 obtain ⟨rfl, hZ, hh⟩ := hP
 have hx := Bd.exec
 have hby := Bd.bytes
 have hml : c.maxLocals = 2 := hml0
 have hown : s.vm.findClass "com/example/level_slate/levelslate/TopicCandidates" = some m.cls := findClass_of_methodNamed Bd.named
 have hnm := (name_of_methodNamed Bd.named Bd.method).1
 have X0 : Stand p l e (rO 1 0 0 13) s m #[(.ref a), (.int (1 : Int32))] below meth c s₁ [] 0 0 := Stand.of_body Bd
 have e0 : s₁.heap = h0 := by rw [← hh, Bd.state]; rfl
 have N0 := Fr.nil n0
 obtain ⟨B_, hB_⟩ : ∃ z, z = s₁.setTop (entryFrame m #[(.ref a), (.int (1 : Int32))] 2) := ⟨_, rfl⟩
 have k0 : own_K p e below (s₁.setTop (mkF m 0 #[.val (.ref a), .val (.int (1 : Int32))] [])) B_ := by rw [hB_]; exact fun t k => castTop (by clear k; first | (simp [entryFrame, mkF, argsToLocals, Value.category, maxLocals]; done) | rfl) k
 have k1 : own_J p e below s₁ m 1 #[.val (.ref a), .val (.int (1 : Int32))] [(.ref a)] B_ := fun t_ hh => k0 t_ (by
  refine XS.aloadN X0.here hx rfl (hb hby own_h503) rfl rfl ?_
  exact hh)
 obtain ⟨T21, X22, e23, st24⟩ := getF X0 hx hZ hown (host := "") (Or.inl (wT hw 250 rfl)) Via.refl e0 f0_ (g := (mkF m 1 #[.val (.ref a), .val (.int (1 : Int32))] [(.ref a)])) rfl rfl (hb hby own_h504)
 have k2 : own_J p e below T21 m 4 #[.val (.ref a), .val (.int (1 : Int32))] [(.ref r)] B_ := fun t_ hh => k1 t_ (st24 t_ hh)
 have k3 : own_J p e below T21 m 5 #[.val (.ref a), .val (.int (1 : Int32))] [(.int (1 : Int32)), (.ref r)] B_ := fun t_ hh => k2 t_ (by
  refine XS.iloadN X22.here hx rfl (hb hby own_h505) rfl ?_
  exact hh)
 obtain ⟨cq36, kq37, qa38, qb39, qc40⟩ := isOf hZ e23 f1_
 obtain ⟨_, _, ⟨T25, L26, k_27, n_28⟩, -, X29, ⟨Lc30, hQ31, l_32, y_33, z_34⟩, st35⟩ := X22.interfaceBack hx (xi := (⟨"java/util/List", "get", "(I)Ljava/lang/Object;"⟩ : MethodName)) (y := (⟨"java/util/ImmutableCollections$ListN", "get", "(I)Ljava/lang/Object;"⟩ : MethodName)) hown (mvT hZ (wT hw 137 rfl)) (mvT hZ (wT hw 138 rfl)) (mvT hZ (wT hw 139 rfl)) (mvT hZ (wT hw 290 rfl)) (mvT hZ (wT hw 291 rfl)) (mvT hZ (wT hw 292 rfl)) (mvT hZ (wT hw 293 rfl)) (mvT hZ (wT hw 294 rfl)) (by decide) (backOf (W := 0) (rmNg1 l Z a0 hw [] r ea ke x0 x1 x2 h0 n0 Z0 f2_ f3_ ) hZ (wT hw 295 rfl) (wT hw 277 rfl) (by decide) (by decide)) qa38 qb39 qc40 (g := (mkF m 5 #[.val (.ref a), .val (.int (1 : Int32))] [(.int (1 : Int32)), (.ref r)])) rfl (by rw [hml]; rfl) (Steps.refl _) (argsL := [(.int (1 : Int32))]) (rest := []) (lenOf own_h297 rfl) rfl (by show 2 * 0 + _ ≤ _; exact Nat.le_of_eq rfl) (hb hby own_h506) (fun _ _ => ⟨rfl, e23, own_l rfl, own_l rfl⟩)
 dsimp only [Pt.U, Pt.locs, Pt.cells, Pt.slots] at X29 l_32 y_33 z_34 st35 hQ31
 subst l_32 y_33 z_34
 obtain ⟨rfl, N41, e42⟩ := hQ31
 have N43 := Fr.app N0 N41
 have k4 : own_J p e below T25 m 10 #[.val (.ref a), .val (.int (1 : Int32))] [(.ref x1)] B_ := fun t_ hh => k3 t_ (st35.trans hh)
 obtain ⟨T44, X45, e46, st47⟩ := castY X29 hx hZ hown (wT hw 265 rfl) e42 (Ins.self f4_) (g := (mkF m 10 #[.val (.ref a), .val (.int (1 : Int32))] [(.ref x1)])) rfl rfl (hb hby own_h507)
 have k5 : own_J p e below T44 m 13 #[.val (.ref a), .val (.int (1 : Int32))] [(.ref x1)] B_ := fun t_ hh => k4 t_ (st47 t_ hh)
 obtain ⟨fs, hr, hrun, hended, hW, hsame⟩ := X45.leave (v := some (.ref x1)) (fun h => by rw [Bd.returns] at h; cases h)
 refine ⟨_, _, (own_from hB_ (k5 _ (retOut X45 hx (t := .object "java/lang/String") Bd.returns rfl (Or.inr (Or.inr (Or.inr (Or.inr ⟨rfl, rfl, rfl⟩)))) (hb hby own_h508) hr))), hrun, hended, _, _, rfl, ?_, ⟨_, rfl⟩, hW, hsame.mono (own_l rfl) (own_l rfl)⟩
 show Q_rmGcN1 Z a r ea ke x0 x1 x2 h0 n0 _ T44.heap _
 rw [e46]
 exact ⟨rfl, N43, rfl⟩
def Q_rmGcN2 (Z : State) (a : Addr) (r : Addr) (ea : Addr) (ke : ClassId) (x0 : Addr) (x1 : Addr) (x2 : Addr) (h0 : Heap) (n0 : Nat) (v : Option Value) (h : Heap) (L : List Loc) : Prop := v = some (.ref x2) ∧ Fr n0 L ∧ h = h0
set_option maxRecDepth 65536 in
set_option maxHeartbeats 40000000 in
theorem rmGcN2 (l : Launch) (Z : State) (a0 : Array Value) (hw : ∀ d ∈ tables_1, d.before a0 Z = true) (ws : List Jvm.Cond) (a : Addr) (r : Addr) (ea : Addr) (ke : ClassId) (x0 : Addr) (x1 : Addr) (x2 : Addr) (h0 : Heap) (n0 : Nat) (Z0 : n0 ≤ h0.size) (f0_ : Fld Z h0 a "com/example/level_slate/levelslate/TopicCandidates" "candidates" "Ljava/util/List;" (.ref r)) (f1_ : Exa Z h0 r "java/util/ImmutableCollections$ListN") (f2_ : Fld Z h0 r "java/util/ImmutableCollections$ListN" "elements" "[Ljava/lang/Object;" (.ref ea)) (f3_ : Arv Z h0 ea ke (.object "java/lang/Object") (3 : Int32) [(.ref x0), (.ref x1), (.ref x2)] .null) (f4_ : Exa Z h0 x2 "java/lang/String")  :
    own_Met l (⟨"com/example/level_slate/levelslate/TopicCandidates", "getCandidate", "(I)Ljava/lang/String;"⟩ : MethodName) prog_14_method_4_code 2 (some (.object "java/lang/String")) ws (rO 1 0 0 13) #[(.ref a), (.int (2 : Int32))] Z h0 (Q_rmGcN2 Z a r ea ke x0 x1 x2 h0 n0) := by
 refine MetFree.of_bodySF (plainFor_of_name own_h447) hisR ?_
 intro p e s m args below meth c s₁ Bd hml0 hP hK
 obtain ⟨rfl, hZ, hh⟩ := hP
 have hx := Bd.exec
 have hby := Bd.bytes
 have hml : c.maxLocals = 2 := hml0
 have hown : s.vm.findClass "com/example/level_slate/levelslate/TopicCandidates" = some m.cls := findClass_of_methodNamed Bd.named
 have hnm := (name_of_methodNamed Bd.named Bd.method).1
 have X0 : Stand p l e (rO 1 0 0 13) s m #[(.ref a), (.int (2 : Int32))] below meth c s₁ [] 0 0 := Stand.of_body Bd
 have e0 : s₁.heap = h0 := by rw [← hh, Bd.state]; rfl
 have N0 := Fr.nil n0
 obtain ⟨B_, hB_⟩ : ∃ z, z = s₁.setTop (entryFrame m #[(.ref a), (.int (2 : Int32))] 2) := ⟨_, rfl⟩
 have k0 : own_K p e below (s₁.setTop (mkF m 0 #[.val (.ref a), .val (.int (2 : Int32))] [])) B_ := by rw [hB_]; exact fun t k => castTop (by clear k; first | (simp [entryFrame, mkF, argsToLocals, Value.category, maxLocals]; done) | rfl) k
 have k1 : own_J p e below s₁ m 1 #[.val (.ref a), .val (.int (2 : Int32))] [(.ref a)] B_ := fun t_ hh => k0 t_ (by
  refine XS.aloadN X0.here hx rfl (hb hby own_h503) rfl rfl ?_
  exact hh)
 obtain ⟨T21, X22, e23, st24⟩ := getF X0 hx hZ hown (host := "") (Or.inl (wT hw 250 rfl)) Via.refl e0 f0_ (g := (mkF m 1 #[.val (.ref a), .val (.int (2 : Int32))] [(.ref a)])) rfl rfl (hb hby own_h504)
 have k2 : own_J p e below T21 m 4 #[.val (.ref a), .val (.int (2 : Int32))] [(.ref r)] B_ := fun t_ hh => k1 t_ (st24 t_ hh)
 have k3 : own_J p e below T21 m 5 #[.val (.ref a), .val (.int (2 : Int32))] [(.int (2 : Int32)), (.ref r)] B_ := fun t_ hh => k2 t_ (by
  refine XS.iloadN X22.here hx rfl (hb hby own_h505) rfl ?_
  exact hh)
 obtain ⟨cq36, kq37, qa38, qb39, qc40⟩ := isOf hZ e23 f1_
 obtain ⟨_, _, ⟨T25, L26, k_27, n_28⟩, -, X29, ⟨Lc30, hQ31, l_32, y_33, z_34⟩, st35⟩ := X22.interfaceBack hx (xi := (⟨"java/util/List", "get", "(I)Ljava/lang/Object;"⟩ : MethodName)) (y := (⟨"java/util/ImmutableCollections$ListN", "get", "(I)Ljava/lang/Object;"⟩ : MethodName)) hown (mvT hZ (wT hw 137 rfl)) (mvT hZ (wT hw 138 rfl)) (mvT hZ (wT hw 139 rfl)) (mvT hZ (wT hw 290 rfl)) (mvT hZ (wT hw 291 rfl)) (mvT hZ (wT hw 292 rfl)) (mvT hZ (wT hw 293 rfl)) (mvT hZ (wT hw 294 rfl)) (by decide) (backOf (W := 0) (rmNg2 l Z a0 hw [] r ea ke x0 x1 x2 h0 n0 Z0 f2_ f3_ ) hZ (wT hw 295 rfl) (wT hw 277 rfl) (by decide) (by decide)) qa38 qb39 qc40 (g := (mkF m 5 #[.val (.ref a), .val (.int (2 : Int32))] [(.int (2 : Int32)), (.ref r)])) rfl (by rw [hml]; rfl) (Steps.refl _) (argsL := [(.int (2 : Int32))]) (rest := []) (lenOf own_h297 rfl) rfl (by show 2 * 0 + _ ≤ _; exact Nat.le_of_eq rfl) (hb hby own_h506) (fun _ _ => ⟨rfl, e23, own_l rfl, own_l rfl⟩)
 dsimp only [Pt.U, Pt.locs, Pt.cells, Pt.slots] at X29 l_32 y_33 z_34 st35 hQ31
 subst l_32 y_33 z_34
 obtain ⟨rfl, N41, e42⟩ := hQ31
 have N43 := Fr.app N0 N41
 have k4 : own_J p e below T25 m 10 #[.val (.ref a), .val (.int (2 : Int32))] [(.ref x2)] B_ := fun t_ hh => k3 t_ (st35.trans hh)
 obtain ⟨T44, X45, e46, st47⟩ := castY X29 hx hZ hown (wT hw 265 rfl) e42 (Ins.self f4_) (g := (mkF m 10 #[.val (.ref a), .val (.int (2 : Int32))] [(.ref x2)])) rfl rfl (hb hby own_h507)
 have k5 : own_J p e below T44 m 13 #[.val (.ref a), .val (.int (2 : Int32))] [(.ref x2)] B_ := fun t_ hh => k4 t_ (st47 t_ hh)
 obtain ⟨fs, hr, hrun, hended, hW, hsame⟩ := X45.leave (v := some (.ref x2)) (fun h => by rw [Bd.returns] at h; cases h)
 refine ⟨_, _, (own_from hB_ (k5 _ (retOut X45 hx (t := .object "java/lang/String") Bd.returns rfl (Or.inr (Or.inr (Or.inr (Or.inr ⟨rfl, rfl, rfl⟩)))) (hb hby own_h508) hr))), hrun, hended, _, _, rfl, ?_, ⟨_, rfl⟩, hW, hsame.mono (own_l rfl) (own_l rfl)⟩
 show Q_rmGcN2 Z a r ea ke x0 x1 x2 h0 n0 _ T44.heap _
 rw [e46]
 exact ⟨rfl, N43, rfl⟩
def Q_rmEq (Z : State) (a : Addr) (h0 : Heap) (n0 : Nat) (v : Option Value) (h : Heap) (L : List Loc) : Prop := v = some (.int (1 : Int32)) ∧ Fr n0 L ∧ h = h0
theorem own_h509 : decode jdk_42_method_66_code 0 = .ok (.aload_n 0, 1) := by decide +kernel
theorem own_h510 : decode jdk_42_method_66_code 1 = .ok (.aload_n 1, 1) := by decide +kernel
theorem own_h511 : decode jdk_42_method_66_code 2 = .ok (.if_acmp .ne 5, 3) := by decide +kernel
theorem own_h512 : decode jdk_42_method_66_code 5 = .ok (.iconst 1, 1) := by decide +kernel
theorem own_h513 : decode jdk_42_method_66_code 6 = .ok (.ireturn, 1) := by decide +kernel
set_option maxRecDepth 65536 in
set_option maxHeartbeats 40000000 in
theorem rmEq (l : Launch) (Z : State) (a0 : Array Value) (hw : ∀ d ∈ tables_1, d.before a0 Z = true) (ws : List Jvm.Cond) (a : Addr) (h0 : Heap) (n0 : Nat) (Z0 : n0 ≤ h0.size)   :
    own_Met l (⟨"java/lang/String", "equals", "(Ljava/lang/Object;)Z"⟩ : MethodName) jdk_42_method_66_code 3 (some .boolean) ws (rO 0 0 0 0) #[(.ref a), (.ref a)] Z h0 (Q_rmEq Z a h0 n0) := by
 refine MetFree.of_bodySF (plainFor_of_name own_h1) hisR ?_
 intro p e s m args below meth c s₁ Bd hml0 hP hK
 obtain ⟨rfl, hZ, hh⟩ := hP
 have hx := Bd.exec
 have hby := Bd.bytes
 have hml : c.maxLocals = 3 := hml0
 have hown : s.vm.findClass "java/lang/String" = some m.cls := findClass_of_methodNamed Bd.named
 have hnm := (name_of_methodNamed Bd.named Bd.method).1
 have X0 : Stand p l e (rO 0 0 0 0) s m #[(.ref a), (.ref a)] below meth c s₁ [] 0 0 := Stand.of_body Bd
 have e0 : s₁.heap = h0 := by rw [← hh, Bd.state]; rfl
 have N0 := Fr.nil n0
 obtain ⟨B_, hB_⟩ : ∃ z, z = s₁.setTop (entryFrame m #[(.ref a), (.ref a)] 3) := ⟨_, rfl⟩
 have k0 : own_K p e below (s₁.setTop (mkF m 0 #[.val (.ref a), .val (.ref a), .unset] [])) B_ := by rw [hB_]; exact fun t k => castTop (by clear k; first | (simp [entryFrame, mkF, argsToLocals, Value.category, maxLocals]; done) | rfl) k
 have k1 : own_J p e below s₁ m 6 #[.val (.ref a), .val (.ref a), .unset] [(.int (1 : Int32))] B_ := fun t_ hh => k0 t_ (by
  refine XS.aloadN X0.here hx rfl (hb hby own_h509) rfl rfl ?_
  refine XS.aloadN X0.here hx rfl (hb hby own_h510) rfl rfl ?_
  refine RoadKit.acmp X0 hx (g := (mkF m 2 #[.val (.ref a), .val (.ref a), .unset] [(.ref a), (.ref a)])) rfl (x := (.ref a)) (y := (.ref a)) rfl rfl (pc0 := 2) (pc' := 5) (same := true) rfl (hb hby own_h511) rfl (by simp) (by decide) (by decide) ?_
  refine XS.iconst X0.here hx rfl (hb hby own_h512) ?_
  exact hh)
 obtain ⟨fs, hr, hrun, hended, hW, hsame⟩ := X0.leave (v := some (.int (1 : Int32))) (fun h => by rw [Bd.returns] at h; cases h)
 refine ⟨_, _, (own_from hB_ (k1 _ (retN X0 hx (t := .boolean) Bd.returns (by simp) (hb hby own_h513) hr))), hrun, hended, _, _, rfl, ?_, ⟨_, rfl⟩, hW, hsame.mono (own_l rfl) (own_l rfl)⟩
 show Q_rmEq Z a h0 n0 _ s₁.heap _
 rw [e0]
 exact ⟨rfl, N0, rfl⟩
def QL (h0 : Heap) (n0 : Nat) (v : Option Value) (h : Heap) (L : List Loc) : Prop := v = some (.int 1) ∧ Fr n0 L
theorem own_h514 : parseMethodDescriptor "(I)Ljava/lang/String;" = some ⟨[.int], some (.object "java/lang/String")⟩ := by decide +kernel
theorem own_h515 : parseMethodDescriptor "(Ljava/lang/Object;)Z" = some ⟨[.object "java/lang/Object"], some .boolean⟩ := by decide +kernel
theorem own_h516 : parseMethodDescriptor "(D)Ljava/lang/Double;" = some ⟨[.double], some (.object "java/lang/Double")⟩ := by decide +kernel
theorem own_h517 : parseMethodDescriptor "(C)Ljava/lang/String;" = some ⟨[.char], some (.object "java/lang/String")⟩ := by decide +kernel
theorem own_h518 : parseMethodDescriptor "(Ljava/lang/String;Ljava/util/List;Ljava/util/List;)V" = some ⟨[.object "java/lang/String", .object "java/util/List", .object "java/util/List"], none⟩ := by decide +kernel
set_option maxRecDepth 65536 in
set_option maxHeartbeats 40000000 in
theorem rmL (l : Launch) (Z : State) (a0 : Array Value) (hw : ∀ d ∈ tables_1, d.before a0 Z = true) (ws : List Jvm.Cond) (av bv cv nv iv tv : Int32) (h0 : Heap) (n0 : Nat) (Z0 : n0 ≤ h0.size) (O0 : Old Z n0 h0) (ci : Int32) (sC : Sta Z Z.heap "java/lang/String" "COMPACT_STRINGS" "Z" (.int ci)) (hc : ¬ ci = 0) (dz : Addr) (kz : ClassId) (sD : Sta Z Z.heap "java/util/ArrayList" "DEFAULTCAPACITY_EMPTY_ELEMENTDATA" "[Ljava/lang/Object;" (.ref dz)) (aD : Arv Z Z.heap dz kz (.object "java/lang/Object") (0 : Int32) [] .null) (em : Addr) (sE : Sta Z Z.heap "java/util/ImmutableCollections" "EMPTY" "Ljava/lang/Object;" (.ref em)) (mr : Addr) (hM : own_Mir Z "[Ljava/lang/Object;" mr) (hEm : em < n0) :
    MetFree l x (head1 (Jvm.Cond.code x code maxLocals ret :: ws) room_1) (fun ar_ U => ar_ = #[(.int av), (.int bv), (.int cv), (.int nv), (.int iv), (.int tv)] ∧ Z.Warmed39 U.vm ∧ U.heap = h0 ∧ CHv Z own_EL U.vm h0) (fun _ _ _ _ _ => True) (fun _ U o U' => ∃ v L, o = .returned v ∧ QL h0 n0 v U'.heap L ∧ ReturnedEndW U o U' L 56 1280) := by
 refine MetFree.of_bodySF (plainFor_of_name own_h24) hisR ?_
 intro p e s m args below meth c s₁ Bd hml0 hP hK
 obtain ⟨rfl, hZ, hh, hCH⟩ := hP
 have hx := Bd.exec
 have hby := Bd.bytes
 have hml : c.maxLocals = 16 := hml0
 have hown : s.vm.findClass "com/example/level_slate/levelslate/TopicCandidatesGetCandidatePinLaw" = some m.cls := findClass_of_methodNamed Bd.named
 have hnm := (name_of_methodNamed Bd.named Bd.method).1
 have X0 : Stand p l e room_1 (s.setVm s.vm) m #[(.int av), (.int bv), (.int cv), (.int nv), (.int iv), (.int tv)] below meth c s₁ [] 0 0 := Stand.of_body Bd
 have hS0 : s.Since s.vm 0 := (State.WarmedH.refl s).since 0
 have hk0 : 0 ≤ h0.size := Nat.zero_le _
 have hZ : Z.Warmed39 (s.setVm s.vm).vm := hZ
 have hown : (s.setVm s.vm).vm.findClass "com/example/level_slate/levelslate/TopicCandidatesGetCandidatePinLaw" = some m.cls := hown
 have Cr0 : CHr Z own_EL s.vm h0 s.vm h0 := CHr.refl hCH
 have e0 : s₁.heap = h0 := by rw [← hh, Bd.state]; rfl
 have N0 := Fr.nil n0
 obtain ⟨B_, hB_⟩ : ∃ z, z = s₁.setTop (entryFrame m #[(.int av), (.int bv), (.int cv), (.int nv), (.int iv), (.int tv)] maxLocals) := ⟨_, rfl⟩
 have k0 : own_K p e below (s₁.setTop (mkF m 0 #[.val (.int av), .val (.int bv), .val (.int cv), .val (.int nv), .val (.int iv), .val (.int tv), .unset, .unset, .unset, .unset, .unset, .unset, .unset, .unset, .unset, .unset] [])) B_ := by rw [hB_]; exact fun t k => castTop (by clear k; first | (simp [entryFrame, mkF, argsToLocals, Value.category, maxLocals]; done) | rfl) k
 have k1 : own_J p e below s₁ m 11 #[.val (.int av), .val (.int bv), .val (.int cv), .val (.int nv), .val (.int iv), .val (.int tv), .val (.int ((1 : Int32) + ((nv &&& (2147483647 : Int32)) % (3 : Int32)))), .unset, .unset, .unset, .unset, .unset, .unset, .unset, .unset, .unset] [(.int av)] B_ := fun t_ hh => k0 t_ (by
  refine XS.iconst X0.here hx rfl (hb hby at_0) ?_
  refine XS.iloadN X0.here hx rfl (hb hby at_1) rfl ?_
  refine X0.ldcInt hx hown (mvT hZ (wT hw 0 rfl)) (g := (mkF m 2 #[.val (.int av), .val (.int bv), .val (.int cv), .val (.int nv), .val (.int iv), .val (.int tv), .unset, .unset, .unset, .unset, .unset, .unset, .unset, .unset, .unset, .unset] [(.int nv), (.int (1 : Int32))])) rfl (hb hby at_2) _ ?_
  refine XS.iand X0.here hx rfl (hb hby at_4) rfl ?_
  refine XS.iconst X0.here hx rfl (hb hby at_5) ?_
  refine iremM X0 hx (g := (mkF m 6 #[.val (.int av), .val (.int bv), .val (.int cv), .val (.int nv), .val (.int iv), .val (.int tv), .unset, .unset, .unset, .unset, .unset, .unset, .unset, .unset, .unset, .unset] [(.int (3 : Int32)), (.int (nv &&& (2147483647 : Int32))), (.int (1 : Int32))])) rfl (hb hby at_6) rfl (by decide) ?_
  refine XS.iadd X0.here hx rfl (hb hby at_7) rfl ?_
  refine XS.istore X0.here hx rfl (hb hby at_8) rfl (l' := #[.val (.int av), .val (.int bv), .val (.int cv), .val (.int nv), .val (.int iv), .val (.int tv), .val (.int ((1 : Int32) + ((nv &&& (2147483647 : Int32)) % (3 : Int32)))), .unset, .unset, .unset, .unset, .unset, .unset, .unset, .unset, .unset]) rfl ?_
  refine XS.iloadN X0.here hx rfl (hb hby at_10) rfl ?_
  exact hh)
 obtain ⟨_, _, ⟨T21, L22, k_23, n_24⟩, -, X25, hSc32, hgr33, ⟨Lc26, hQ27, l_28, y_29, z_30, C34⟩, st31⟩ := callSS X0 hx (y := (⟨"com/example/level_slate/levelslate/TopicCandidatesGetCandidatePinLaw", "str", "(I)Ljava/lang/String;"⟩ : MethodName)) hown (mvT hZ (wT hw 1 rfl)) (mvT hZ (wT hw 2 rfl)) (mvT hZ (wT hw 3 rfl)) (mvT hZ (wT hw 4 rfl)) (by decide) (backOfSH (W := 0) (rmStr l Z a0 hw [] av h0 n0 Z0 O0 ci sC hc) hZ (wT hw 4 rfl) (wT hw 3 rfl) (by decide) (by decide) (own_EW hw) Cr0.1) (g := (mkF m 11 #[.val (.int av), .val (.int bv), .val (.int cv), .val (.int nv), .val (.int iv), .val (.int tv), .val (.int ((1 : Int32) + ((nv &&& (2147483647 : Int32)) % (3 : Int32)))), .unset, .unset, .unset, .unset, .unset, .unset, .unset, .unset, .unset] [(.int av)])) rfl (by rw [hml]; rfl) (argsL := [(.int av)]) (rest := []) (lenOf own_h514 rfl) rfl (by show 2 * 0 + _ ≤ _; exact Nat.le_of_eq rfl) (hb hby at_11) (fun _ _ => ⟨rfl, e0, own_l rfl, own_l rfl⟩)
 dsimp only [Pt.U, Pt.locs, Pt.cells, Pt.slots] at X25 hSc32 hgr33 l_28 y_29 z_30 st31 hQ27 C34
 subst l_28 y_29 z_30
 obtain ⟨X35, hS36, hZ37, hown38⟩ := rebS hS0 (by rw [e0]; exact hk0) X25 hSc32 hgr33 hZ hown
 have Cr39 := Cr0.trans C34
 obtain ⟨r41, rfl, N40, K45, F42, F43, F44, -⟩ := hQ27
 have N46 := Fr.app N0 N40
 have Z47 : n0 ≤ T21.heap.size := Nat.le_trans Z0 K45.1
 have hk48 := Nat.le_trans hk0 K45.1
 have O49 := O0.keep K45 all0
 have e50 : T21.heap = T21.heap := rfl
 have k2 : own_J p e below T21 m 14 #[.val (.int av), .val (.int bv), .val (.int cv), .val (.int nv), .val (.int iv), .val (.int tv), .val (.int ((1 : Int32) + ((nv &&& (2147483647 : Int32)) % (3 : Int32)))), .unset, .unset, .unset, .unset, .unset, .unset, .unset, .unset, .unset] [(.ref r41)] B_ := fun t_ hh => k1 t_ (st31.trans hh)
 have k3 : own_J p e below T21 m 17 #[.val (.int av), .val (.int bv), .val (.int cv), .val (.int nv), .val (.int iv), .val (.int tv), .val (.int ((1 : Int32) + ((nv &&& (2147483647 : Int32)) % (3 : Int32)))), .val (.ref r41), .unset, .unset, .unset, .unset, .unset, .unset, .unset, .unset] [(.int bv)] B_ := fun t_ hh => k2 t_ (by
  refine XS.astore X35.here hx rfl (hb hby at_14) rfl rfl (l' := #[.val (.int av), .val (.int bv), .val (.int cv), .val (.int nv), .val (.int iv), .val (.int tv), .val (.int ((1 : Int32) + ((nv &&& (2147483647 : Int32)) % (3 : Int32)))), .val (.ref r41), .unset, .unset, .unset, .unset, .unset, .unset, .unset, .unset]) rfl ?_
  refine XS.iloadN X35.here hx rfl (hb hby at_16) rfl ?_
  exact hh)
 obtain ⟨_, _, ⟨T51, L52, k_53, n_54⟩, -, X55, hSc62, hgr63, ⟨Lc56, hQ57, l_58, y_59, z_60, C64⟩, st61⟩ := callSS X35 hx (y := (⟨"com/example/level_slate/levelslate/TopicCandidatesGetCandidatePinLaw", "str", "(I)Ljava/lang/String;"⟩ : MethodName)) hown38 (mvT hZ37 (wT hw 1 rfl)) (mvT hZ37 (wT hw 2 rfl)) (mvT hZ37 (wT hw 3 rfl)) (mvT hZ37 (wT hw 4 rfl)) (by decide) (backOfSH (W := 0) (rmStr l Z a0 hw [] bv T21.heap n0 Z47 O49 ci sC hc) hZ37 (wT hw 4 rfl) (wT hw 3 rfl) (by decide) (by decide) (own_EW hw) Cr39.1) (g := (mkF m 17 #[.val (.int av), .val (.int bv), .val (.int cv), .val (.int nv), .val (.int iv), .val (.int tv), .val (.int ((1 : Int32) + ((nv &&& (2147483647 : Int32)) % (3 : Int32)))), .val (.ref r41), .unset, .unset, .unset, .unset, .unset, .unset, .unset, .unset] [(.int bv)])) rfl (by rw [hml]; rfl) (argsL := [(.int bv)]) (rest := []) (lenOf own_h514 rfl) rfl (by show 2 * 0 + _ ≤ _; exact Nat.le_of_eq rfl) (hb hby at_17) (fun _ _ => ⟨rfl, e50, own_l rfl, own_l rfl⟩)
 dsimp only [Pt.U, Pt.locs, Pt.cells, Pt.slots] at X55 hSc62 hgr63 l_58 y_59 z_60 st61 hQ57 C64
 subst l_58 y_59 z_60
 obtain ⟨X65, hS66, hZ67, hown68⟩ := rebS hS36 (by rw [e50]; exact (Nat.le_refl T21.heap.size)) X55 hSc62 hgr63 hZ37 hown38
 have Cr69 := Cr39.trans C64
 obtain ⟨r71, rfl, N70, K75, F72, F73, F74, -⟩ := hQ57
 have N76 := Fr.app N46 N70
 have F77 := F42.keep K75
 have Z78 : n0 ≤ T51.heap.size := Nat.le_trans Z47 K75.1
 have hk79 := Nat.le_trans (Nat.le_refl T21.heap.size) K75.1
 have O80 := O49.keep K75 all0
 have e81 : T51.heap = T51.heap := rfl
 have k4 : own_J p e below T51 m 20 #[.val (.int av), .val (.int bv), .val (.int cv), .val (.int nv), .val (.int iv), .val (.int tv), .val (.int ((1 : Int32) + ((nv &&& (2147483647 : Int32)) % (3 : Int32)))), .val (.ref r41), .unset, .unset, .unset, .unset, .unset, .unset, .unset, .unset] [(.ref r71)] B_ := fun t_ hh => k3 t_ (st61.trans hh)
 have k5 : own_J p e below T51 m 23 #[.val (.int av), .val (.int bv), .val (.int cv), .val (.int nv), .val (.int iv), .val (.int tv), .val (.int ((1 : Int32) + ((nv &&& (2147483647 : Int32)) % (3 : Int32)))), .val (.ref r41), .val (.ref r71), .unset, .unset, .unset, .unset, .unset, .unset, .unset] [(.int cv)] B_ := fun t_ hh => k4 t_ (by
  refine XS.astore X65.here hx rfl (hb hby at_20) rfl rfl (l' := #[.val (.int av), .val (.int bv), .val (.int cv), .val (.int nv), .val (.int iv), .val (.int tv), .val (.int ((1 : Int32) + ((nv &&& (2147483647 : Int32)) % (3 : Int32)))), .val (.ref r41), .val (.ref r71), .unset, .unset, .unset, .unset, .unset, .unset, .unset]) rfl ?_
  refine XS.iloadN X65.here hx rfl (hb hby at_22) rfl ?_
  exact hh)
 obtain ⟨_, _, ⟨T82, L83, k_84, n_85⟩, -, X86, hSc93, hgr94, ⟨Lc87, hQ88, l_89, y_90, z_91, C95⟩, st92⟩ := callSS X65 hx (y := (⟨"com/example/level_slate/levelslate/TopicCandidatesGetCandidatePinLaw", "str", "(I)Ljava/lang/String;"⟩ : MethodName)) hown68 (mvT hZ67 (wT hw 1 rfl)) (mvT hZ67 (wT hw 2 rfl)) (mvT hZ67 (wT hw 3 rfl)) (mvT hZ67 (wT hw 4 rfl)) (by decide) (backOfSH (W := 0) (rmStr l Z a0 hw [] cv T51.heap n0 Z78 O80 ci sC hc) hZ67 (wT hw 4 rfl) (wT hw 3 rfl) (by decide) (by decide) (own_EW hw) Cr69.1) (g := (mkF m 23 #[.val (.int av), .val (.int bv), .val (.int cv), .val (.int nv), .val (.int iv), .val (.int tv), .val (.int ((1 : Int32) + ((nv &&& (2147483647 : Int32)) % (3 : Int32)))), .val (.ref r41), .val (.ref r71), .unset, .unset, .unset, .unset, .unset, .unset, .unset] [(.int cv)])) rfl (by rw [hml]; rfl) (argsL := [(.int cv)]) (rest := []) (lenOf own_h514 rfl) rfl (by show 2 * 0 + _ ≤ _; exact Nat.le_of_eq rfl) (hb hby at_23) (fun _ _ => ⟨rfl, e81, own_l rfl, own_l rfl⟩)
 dsimp only [Pt.U, Pt.locs, Pt.cells, Pt.slots] at X86 hSc93 hgr94 l_89 y_90 z_91 st92 hQ88 C95
 subst l_89 y_90 z_91
 obtain ⟨X96, hS97, hZ98, hown99⟩ := rebS hS66 (by rw [e81]; exact (Nat.le_refl T51.heap.size)) X86 hSc93 hgr94 hZ67 hown68
 have Cr100 := Cr69.trans C95
 obtain ⟨r102, rfl, N101, K106, F103, F104, F105, -⟩ := hQ88
 have N107 := Fr.app N76 N101
 have F108 := F77.keep K106
 have F109 := F72.keep K106
 have Z110 : n0 ≤ T82.heap.size := Nat.le_trans Z78 K106.1
 have hk111 := Nat.le_trans (Nat.le_refl T51.heap.size) K106.1
 have O112 := O80.keep K106 all0
 have e113 : T82.heap = T82.heap := rfl
 have k6 : own_J p e below T82 m 26 #[.val (.int av), .val (.int bv), .val (.int cv), .val (.int nv), .val (.int iv), .val (.int tv), .val (.int ((1 : Int32) + ((nv &&& (2147483647 : Int32)) % (3 : Int32)))), .val (.ref r41), .val (.ref r71), .unset, .unset, .unset, .unset, .unset, .unset, .unset] [(.ref r102)] B_ := fun t_ hh => k5 t_ (st92.trans hh)
 have k7 : own_J p e below T82 m 28 #[.val (.int av), .val (.int bv), .val (.int cv), .val (.int nv), .val (.int iv), .val (.int tv), .val (.int ((1 : Int32) + ((nv &&& (2147483647 : Int32)) % (3 : Int32)))), .val (.ref r41), .val (.ref r71), .val (.ref r102), .unset, .unset, .unset, .unset, .unset, .unset] [] B_ := fun t_ hh => k6 t_ (by
  refine XS.astore X96.here hx rfl (hb hby at_26) rfl rfl (l' := #[.val (.int av), .val (.int bv), .val (.int cv), .val (.int nv), .val (.int iv), .val (.int tv), .val (.int ((1 : Int32) + ((nv &&& (2147483647 : Int32)) % (3 : Int32)))), .val (.ref r41), .val (.ref r71), .val (.ref r102), .unset, .unset, .unset, .unset, .unset, .unset]) rfl ?_
  exact hh)
 obtain ⟨T114, h115, X116, e117, E118, A119, D120, U122, st121⟩ := newO X96 hx hZ98 hown99 (wT hw 27 rfl) (wT hw 28 rfl) (wT hw 29 rfl) e113 (g := (mkF m 28 #[.val (.int av), .val (.int bv), .val (.int cv), .val (.int nv), .val (.int iv), .val (.int tv), .val (.int ((1 : Int32) + ((nv &&& (2147483647 : Int32)) % (3 : Int32)))), .val (.ref r41), .val (.ref r71), .val (.ref r102), .unset, .unset, .unset, .unset, .unset, .unset] [])) rfl (hb hby at_28) (by decide) (by decide)
 obtain ⟨a123, g124⟩ : ∃ z, z = T82.heap.size := ⟨_, rfl⟩
 rw [← g124] at A119 D120 U122 st121
 have G125 : n0 ≤ a123 := Nat.le_trans Z110 (Nat.le_of_eq g124.symm)
 have hk126 := Nat.le_trans (Nat.le_refl T82.heap.size) E118.1
 have F127 := Exa.ext (h' := h115) E118 F108
 have F128 := Exa.ext (h' := h115) E118 F109
 have F129 := Exa.ext (h' := h115) E118 F103
 have Z130 : n0 ≤ h115.size := Nat.le_trans Z110 E118.1
 have O131 := O112.ext E118
 have F132 : Fld Z h115 a123 "java/util/AbstractList" "modCount" "I" (.int (0 : Int32)) := D120 (Or.inl (wT hw 47 rfl)) (ty := .int) (by decide)
 have F133 : Fld Z h115 a123 "java/util/ArrayList" "elementData" "[Ljava/lang/Object;" .null := D120 (Or.inl (wT hw 50 rfl)) (ty := .array (.object "java/lang/Object")) (by decide)
 have F134 : Fld Z h115 a123 "java/util/ArrayList" "size" "I" (.int (0 : Int32)) := D120 (Or.inl (wT hw 63 rfl)) (ty := .int) (by decide)
 have k8 : own_J p e below T114 m 31 #[.val (.int av), .val (.int bv), .val (.int cv), .val (.int nv), .val (.int iv), .val (.int tv), .val (.int ((1 : Int32) + ((nv &&& (2147483647 : Int32)) % (3 : Int32)))), .val (.ref r41), .val (.ref r71), .val (.ref r102), .unset, .unset, .unset, .unset, .unset, .unset] [(.ref a123)] B_ := fun t_ hh => k7 t_ (st121 t_ hh)
 have k9 : own_J p e below T114 m 32 #[.val (.int av), .val (.int bv), .val (.int cv), .val (.int nv), .val (.int iv), .val (.int tv), .val (.int ((1 : Int32) + ((nv &&& (2147483647 : Int32)) % (3 : Int32)))), .val (.ref r41), .val (.ref r71), .val (.ref r102), .unset, .unset, .unset, .unset, .unset, .unset] [(.ref a123), (.ref a123)] B_ := fun t_ hh => k8 t_ (by
  refine XS.dup X116.here hx rfl (hb hby at_31) rfl rfl ?_
  exact hh)
 obtain ⟨_, _, ⟨T135, L136, k_137, n_138⟩, -, X139, ⟨Lc140, hQ141, l_142, y_143, z_144⟩, st145⟩ := X116.specialBack hx (y := (⟨"java/util/ArrayList", "<init>", "()V"⟩ : MethodName)) rfl hown99 (mvT hZ98 (wT hw 30 rfl)) (mvT hZ98 (wT hw 31 rfl)) (mvT hZ98 (wT hw 32 rfl)) (by decide) (backOf (W := 1) (rmAli l Z a0 hw [] a123 dz h115 n0 Z130 A119 F132 F133 F134 G125 O131 kz sD aD) hZ98 (wT hw 32 rfl) (wT hw 29 rfl) (by decide) (by decide)) (g := (mkF m 32 #[.val (.int av), .val (.int bv), .val (.int cv), .val (.int nv), .val (.int iv), .val (.int tv), .val (.int ((1 : Int32) + ((nv &&& (2147483647 : Int32)) % (3 : Int32)))), .val (.ref r41), .val (.ref r71), .val (.ref r102), .unset, .unset, .unset, .unset, .unset, .unset] [(.ref a123), (.ref a123)])) rfl (by rw [hml]; rfl) (Steps.refl _) (a := a123) (argsL := []) (rest := [(.ref a123)]) (lenOf own_h153 rfl) rfl (by show 2 * 0 + _ ≤ _; exact Nat.le_of_eq rfl) (hb hby at_32) (fun _ _ => ⟨rfl, e117, own_l rfl, own_l rfl⟩)
 dsimp only [Pt.U, Pt.locs, Pt.cells, Pt.slots] at X139 l_142 y_143 z_144 st145 hQ141
 subst l_142 y_143 z_144
 obtain ⟨rfl, N146, K151, F147, F148, F149, F150, -⟩ := hQ141
 have N152 := Fr.app N107 N146
 have F153 := F127.keep K151
 have F154 := F128.keep K151
 have F155 := F129.keep K151
 have F156 := A119.keep K151
 have Z157 : n0 ≤ T135.heap.size := Nat.le_trans Z130 K151.1
 have hk158 := Nat.le_trans hk126 K151.1
 have O159 := O131.keep K151 (allS G125 all0)
 have e160 : T135.heap = T135.heap := rfl
 have k10 : own_J p e below T135 m 35 #[.val (.int av), .val (.int bv), .val (.int cv), .val (.int nv), .val (.int iv), .val (.int tv), .val (.int ((1 : Int32) + ((nv &&& (2147483647 : Int32)) % (3 : Int32)))), .val (.ref r41), .val (.ref r71), .val (.ref r102), .unset, .unset, .unset, .unset, .unset, .unset] [(.ref a123)] B_ := fun t_ hh => k9 t_ (st145.trans hh)
 have k11 : own_J p e below T135 m 37 #[.val (.int av), .val (.int bv), .val (.int cv), .val (.int nv), .val (.int iv), .val (.int tv), .val (.int ((1 : Int32) + ((nv &&& (2147483647 : Int32)) % (3 : Int32)))), .val (.ref r41), .val (.ref r71), .val (.ref r102), .val (.ref a123), .unset, .unset, .unset, .unset, .unset] [] B_ := fun t_ hh => k10 t_ (by
  refine XS.astore X139.here hx rfl (hb hby at_35) rfl rfl (l' := #[.val (.int av), .val (.int bv), .val (.int cv), .val (.int nv), .val (.int iv), .val (.int tv), .val (.int ((1 : Int32) + ((nv &&& (2147483647 : Int32)) % (3 : Int32)))), .val (.ref r41), .val (.ref r71), .val (.ref r102), .val (.ref a123), .unset, .unset, .unset, .unset, .unset]) rfl ?_
  exact hh)
 obtain ⟨T161, h162, X163, e164, E165, A166, D167, U169, st168⟩ := newO X139 hx hZ98 hown99 (wT hw 27 rfl) (wT hw 28 rfl) (wT hw 29 rfl) e160 (g := (mkF m 37 #[.val (.int av), .val (.int bv), .val (.int cv), .val (.int nv), .val (.int iv), .val (.int tv), .val (.int ((1 : Int32) + ((nv &&& (2147483647 : Int32)) % (3 : Int32)))), .val (.ref r41), .val (.ref r71), .val (.ref r102), .val (.ref a123), .unset, .unset, .unset, .unset, .unset] [])) rfl (hb hby at_37) (by decide) (by decide)
 obtain ⟨a170, g171⟩ : ∃ z, z = T135.heap.size := ⟨_, rfl⟩
 rw [← g171] at A166 D167 U169 st168
 have G172 : n0 ≤ a170 := Nat.le_trans Z157 (Nat.le_of_eq g171.symm)
 have hk173 := Nat.le_trans hk158 E165.1
 have F174 := Exa.ext (h' := h162) E165 F153
 have F175 := Exa.ext (h' := h162) E165 F154
 have F176 := Exa.ext (h' := h162) E165 F155
 have F177 := Exa.ext (h' := h162) E165 F147
 have F178 := Fld.ext (h' := h162) E165 F148
 have F179 := Fld.ext (h' := h162) E165 F149
 have F180 := Fld.ext (h' := h162) E165 F150
 have Z181 : n0 ≤ h162.size := Nat.le_trans Z157 E165.1
 have O182 := O159.ext E165
 have F183 : Fld Z h162 a170 "java/util/AbstractList" "modCount" "I" (.int (0 : Int32)) := D167 (Or.inl (wT hw 47 rfl)) (ty := .int) (by decide)
 have F184 : Fld Z h162 a170 "java/util/ArrayList" "elementData" "[Ljava/lang/Object;" .null := D167 (Or.inl (wT hw 50 rfl)) (ty := .array (.object "java/lang/Object")) (by decide)
 have F185 : Fld Z h162 a170 "java/util/ArrayList" "size" "I" (.int (0 : Int32)) := D167 (Or.inl (wT hw 63 rfl)) (ty := .int) (by decide)
 have k12 : own_J p e below T161 m 40 #[.val (.int av), .val (.int bv), .val (.int cv), .val (.int nv), .val (.int iv), .val (.int tv), .val (.int ((1 : Int32) + ((nv &&& (2147483647 : Int32)) % (3 : Int32)))), .val (.ref r41), .val (.ref r71), .val (.ref r102), .val (.ref a123), .unset, .unset, .unset, .unset, .unset] [(.ref a170)] B_ := fun t_ hh => k11 t_ (st168 t_ hh)
 have k13 : own_J p e below T161 m 41 #[.val (.int av), .val (.int bv), .val (.int cv), .val (.int nv), .val (.int iv), .val (.int tv), .val (.int ((1 : Int32) + ((nv &&& (2147483647 : Int32)) % (3 : Int32)))), .val (.ref r41), .val (.ref r71), .val (.ref r102), .val (.ref a123), .unset, .unset, .unset, .unset, .unset] [(.ref a170), (.ref a170)] B_ := fun t_ hh => k12 t_ (by
  refine XS.dup X163.here hx rfl (hb hby at_40) rfl rfl ?_
  exact hh)
 obtain ⟨_, _, ⟨T186, L187, k_188, n_189⟩, -, X190, ⟨Lc191, hQ192, l_193, y_194, z_195⟩, st196⟩ := X163.specialBack hx (y := (⟨"java/util/ArrayList", "<init>", "()V"⟩ : MethodName)) rfl hown99 (mvT hZ98 (wT hw 30 rfl)) (mvT hZ98 (wT hw 31 rfl)) (mvT hZ98 (wT hw 32 rfl)) (by decide) (backOf (W := 1) (rmAli l Z a0 hw [] a170 dz h162 n0 Z181 A166 F183 F184 F185 G172 O182 kz sD aD) hZ98 (wT hw 32 rfl) (wT hw 29 rfl) (by decide) (by decide)) (g := (mkF m 41 #[.val (.int av), .val (.int bv), .val (.int cv), .val (.int nv), .val (.int iv), .val (.int tv), .val (.int ((1 : Int32) + ((nv &&& (2147483647 : Int32)) % (3 : Int32)))), .val (.ref r41), .val (.ref r71), .val (.ref r102), .val (.ref a123), .unset, .unset, .unset, .unset, .unset] [(.ref a170), (.ref a170)])) rfl (by rw [hml]; rfl) (Steps.refl _) (a := a170) (argsL := []) (rest := [(.ref a170)]) (lenOf own_h153 rfl) rfl (by show 2 * 0 + _ ≤ _; exact Nat.le_of_eq rfl) (hb hby at_41) (fun _ _ => ⟨rfl, e164, own_l rfl, own_l rfl⟩)
 dsimp only [Pt.U, Pt.locs, Pt.cells, Pt.slots] at X190 l_193 y_194 z_195 st196 hQ192
 subst l_193 y_194 z_195
 obtain ⟨rfl, N197, K202, F198, F199, F200, F201, -⟩ := hQ192
 have N203 := Fr.app N152 N197
 have F204 := F174.keep K202
 have F205 := F175.keep K202
 have F206 := F176.keep K202
 have F207 := F177.keep K202
 have ne209 : a123 ≠ a170 := by rw [g171]; exact Nat.ne_of_lt F147.lt
 have F208 := F178.keep K202 (ninS ne209 nin0)
 have F210 := F179.keep K202 (ninS ne209 nin0)
 have F211 := F180.keep K202 (ninS ne209 nin0)
 have F212 := A166.keep K202
 have Z213 : n0 ≤ T186.heap.size := Nat.le_trans Z181 K202.1
 have hk214 := Nat.le_trans hk173 K202.1
 have O215 := O182.keep K202 (allS G172 all0)
 have e216 : T186.heap = T186.heap := rfl
 have k14 : own_J p e below T186 m 44 #[.val (.int av), .val (.int bv), .val (.int cv), .val (.int nv), .val (.int iv), .val (.int tv), .val (.int ((1 : Int32) + ((nv &&& (2147483647 : Int32)) % (3 : Int32)))), .val (.ref r41), .val (.ref r71), .val (.ref r102), .val (.ref a123), .unset, .unset, .unset, .unset, .unset] [(.ref a170)] B_ := fun t_ hh => k13 t_ (st196.trans hh)
 have k15 : own_J p e below T186 m 50 #[.val (.int av), .val (.int bv), .val (.int cv), .val (.int nv), .val (.int iv), .val (.int tv), .val (.int ((1 : Int32) + ((nv &&& (2147483647 : Int32)) % (3 : Int32)))), .val (.ref r41), .val (.ref r71), .val (.ref r102), .val (.ref a123), .val (.ref a170), .unset, .unset, .unset, .unset] [(.ref r41), (.ref a123)] B_ := fun t_ hh => k14 t_ (by
  refine XS.astore X190.here hx rfl (hb hby at_44) rfl rfl (l' := #[.val (.int av), .val (.int bv), .val (.int cv), .val (.int nv), .val (.int iv), .val (.int tv), .val (.int ((1 : Int32) + ((nv &&& (2147483647 : Int32)) % (3 : Int32)))), .val (.ref r41), .val (.ref r71), .val (.ref r102), .val (.ref a123), .val (.ref a170), .unset, .unset, .unset, .unset]) rfl ?_
  refine XS.aload X190.here hx rfl (hb hby at_46) rfl rfl ?_
  refine XS.aload X190.here hx rfl (hb hby at_48) rfl rfl ?_
  exact hh)
 have ne228 : r41 ≠ a123 := by rw [g124]; exact Nat.ne_of_lt F108.lt
 obtain ⟨cq229, kq230, qa231, qb232, qc233⟩ := isOf hZ98 e216 F207
 obtain ⟨_, _, ⟨T217, L218, k_219, n_220⟩, -, X221, ⟨Lc222, hQ223, l_224, y_225, z_226⟩, st227⟩ := X190.interfaceBack hx (xi := (⟨"java/util/List", "add", "(Ljava/lang/Object;)Z"⟩ : MethodName)) (y := (⟨"java/util/ArrayList", "add", "(Ljava/lang/Object;)Z"⟩ : MethodName)) hown99 (mvT hZ98 (wT hw 51 rfl)) (mvT hZ98 (wT hw 52 rfl)) (mvT hZ98 (wT hw 53 rfl)) (mvT hZ98 (wT hw 54 rfl)) (mvT hZ98 (wT hw 55 rfl)) (mvT hZ98 (wT hw 56 rfl)) (mvT hZ98 (wT hw 57 rfl)) (mvT hZ98 (wT hw 58 rfl)) (by decide) (backOf (W := 0) (rmAdS0 l Z a0 hw [] a123 r41 dz T186.heap n0 Z213 F207 F208 F210 F211 G125 O215 (Ins.of_exa F204 (wT hw 85 rfl)) ne228 kz sD aD) hZ98 (wT hw 59 rfl) (wT hw 29 rfl) (by decide) (by decide)) qa231 qb232 qc233 (g := (mkF m 50 #[.val (.int av), .val (.int bv), .val (.int cv), .val (.int nv), .val (.int iv), .val (.int tv), .val (.int ((1 : Int32) + ((nv &&& (2147483647 : Int32)) % (3 : Int32)))), .val (.ref r41), .val (.ref r71), .val (.ref r102), .val (.ref a123), .val (.ref a170), .unset, .unset, .unset, .unset] [(.ref r41), (.ref a123)])) rfl (by rw [hml]; rfl) (Steps.refl _) (argsL := [(.ref r41)]) (rest := []) (lenOf own_h515 rfl) rfl (by show 2 * 0 + _ ≤ _; exact Nat.le_of_eq rfl) (hb hby at_50) (fun _ _ => ⟨rfl, e216, own_l rfl, own_l rfl⟩)
 dsimp only [Pt.U, Pt.locs, Pt.cells, Pt.slots] at X221 l_224 y_225 z_226 st227 hQ223
 subst l_224 y_225 z_226
 obtain ⟨r235, kr236, rfl, N234, K247, F237, F238, F239, F240, F241, F242, F243, F244, F245, F246, -⟩ := hQ223
 have N248 := Fr.app N203 N234
 have F249 := F204.keep K247
 have F250 := F205.keep K247
 have F251 := F206.keep K247
 have F252 := F207.keep K247
 have F253 := F198.keep K247
 have F254 := F199.keep K247 (ninS (Ne.symm ne209) nin0)
 have F255 := F200.keep K247 (ninS (Ne.symm ne209) nin0)
 have F256 := F201.keep K247 (ninS (Ne.symm ne209) nin0)
 have Z257 : n0 ≤ T217.heap.size := Nat.le_trans Z213 K247.1
 have hk258 := Nat.le_trans hk214 K247.1
 have O259 := O215.keep K247 (allS G125 all0)
 have e260 : T217.heap = T217.heap := rfl
 have k16 : own_J p e below T217 m 55 #[.val (.int av), .val (.int bv), .val (.int cv), .val (.int nv), .val (.int iv), .val (.int tv), .val (.int ((1 : Int32) + ((nv &&& (2147483647 : Int32)) % (3 : Int32)))), .val (.ref r41), .val (.ref r71), .val (.ref r102), .val (.ref a123), .val (.ref a170), .unset, .unset, .unset, .unset] [(.int (1 : Int32))] B_ := fun t_ hh => k15 t_ (st227.trans hh)
 have k17 : own_J p e below T217 m 65 #[.val (.int av), .val (.int bv), .val (.int cv), .val (.int nv), .val (.int iv), .val (.int tv), .val (.int ((1 : Int32) + ((nv &&& (2147483647 : Int32)) % (3 : Int32)))), .val (.ref r41), .val (.ref r71), .val (.ref r102), .val (.ref a123), .val (.ref a170), .unset, .unset, .unset, .unset] [(.double (FP.i2d (tv &&& (255 : Int32)))), (.ref a170)] B_ := fun t_ hh => k16 t_ (by
  refine XS.pop X221.here hx rfl (hb hby at_55) rfl rfl ?_
  refine XS.aload X221.here hx rfl (hb hby at_56) rfl rfl ?_
  refine XS.iload X221.here hx rfl (hb hby at_58) rfl ?_
  refine XS.sipush X221.here hx rfl (hb hby at_60) ?_
  refine XS.iand X221.here hx rfl (hb hby at_63) rfl ?_
  refine XS.i2dS X221.here hx rfl (hb hby at_64) rfl rfl ?_
  exact hh)
 obtain ⟨_, _, ⟨T261, L262, k_263, n_264⟩, -, X265, ⟨Lc266, hQ267, l_268, y_269, z_270⟩, st271⟩ := Jvm.LawKit.callS X221 hx (y := (⟨"java/lang/Double", "valueOf", "(D)Ljava/lang/Double;"⟩ : MethodName)) hown99 (mvT hZ98 (wT hw 86 rfl)) (mvT hZ98 (wT hw 87 rfl)) (mvT hZ98 (wT hw 88 rfl)) (mvT hZ98 (wT hw 89 rfl)) (by decide) (backOf (W := 1) (rmDv l Z a0 hw [] (FP.i2d (tv &&& (255 : Int32))) T217.heap n0 Z257  ) hZ98 (wT hw 89 rfl) (wT hw 88 rfl) (by decide) (by decide)) (g := (mkF m 65 #[.val (.int av), .val (.int bv), .val (.int cv), .val (.int nv), .val (.int iv), .val (.int tv), .val (.int ((1 : Int32) + ((nv &&& (2147483647 : Int32)) % (3 : Int32)))), .val (.ref r41), .val (.ref r71), .val (.ref r102), .val (.ref a123), .val (.ref a170), .unset, .unset, .unset, .unset] [(.double (FP.i2d (tv &&& (255 : Int32)))), (.ref a170)])) rfl (by rw [hml]; rfl) (argsL := [(.double (FP.i2d (tv &&& (255 : Int32))))]) (rest := [(.ref a170)]) (lenOf own_h516 rfl) rfl (by show 2 * 0 + _ ≤ _; exact Nat.le_of_eq rfl) (hb hby at_65) (fun _ _ => ⟨rfl, e260, own_l rfl, own_l rfl⟩)
 dsimp only [Pt.U, Pt.locs, Pt.cells, Pt.slots] at X265 l_268 y_269 z_270 st271 hQ267
 subst l_268 y_269 z_270
 obtain ⟨r273, rfl, N272, K278, F274, F275, F276, F277, -⟩ := hQ267
 have N279 := Fr.app N248 N272
 have F280 := F249.keep K278
 have F281 := F250.keep K278
 have F282 := F251.keep K278
 have F283 := F237.keep K278
 have F284 := F253.keep K278
 have F285 := F254.keep K278 nin0
 have F286 := F255.keep K278 nin0
 have F287 := F256.keep K278 nin0
 have F288 := F238.keep K278 nin0
 have F289 := F239.keep K278 nin0
 have F290 := F240.keep K278 nin0
 have F291 := F241.keep K278 nin0
 have F292 := F246.keep K278
 have Z293 : n0 ≤ T261.heap.size := Nat.le_trans Z257 K278.1
 have hk294 := Nat.le_trans hk258 K278.1
 have O295 := O259.keep K278 all0
 have e296 : T261.heap = T261.heap := rfl
 have k18 : own_J p e below T261 m 68 #[.val (.int av), .val (.int bv), .val (.int cv), .val (.int nv), .val (.int iv), .val (.int tv), .val (.int ((1 : Int32) + ((nv &&& (2147483647 : Int32)) % (3 : Int32)))), .val (.ref r41), .val (.ref r71), .val (.ref r102), .val (.ref a123), .val (.ref a170), .unset, .unset, .unset, .unset] [(.ref r273), (.ref a170)] B_ := fun t_ hh => k17 t_ (st271 t_ hh)
 have ne308 : a170 ≠ r273 := Nat.ne_of_lt (Nat.lt_of_lt_of_le F253.lt F277)
 obtain ⟨cq309, kq310, qa311, qb312, qc313⟩ := isOf hZ98 e296 F284
 obtain ⟨_, _, ⟨T297, L298, k_299, n_300⟩, -, X301, ⟨Lc302, hQ303, l_304, y_305, z_306⟩, st307⟩ := X265.interfaceBack hx (xi := (⟨"java/util/List", "add", "(Ljava/lang/Object;)Z"⟩ : MethodName)) (y := (⟨"java/util/ArrayList", "add", "(Ljava/lang/Object;)Z"⟩ : MethodName)) hown99 (mvT hZ98 (wT hw 51 rfl)) (mvT hZ98 (wT hw 52 rfl)) (mvT hZ98 (wT hw 53 rfl)) (mvT hZ98 (wT hw 54 rfl)) (mvT hZ98 (wT hw 55 rfl)) (mvT hZ98 (wT hw 56 rfl)) (mvT hZ98 (wT hw 57 rfl)) (mvT hZ98 (wT hw 58 rfl)) (by decide) (backOf (W := 0) (rmAdS0 l Z a0 hw [] a170 r273 dz T261.heap n0 Z293 F284 F285 F286 F287 G172 O295 (Ins.of_exa F274 (wT hw 105 rfl)) (Ne.symm ne308) kz sD aD) hZ98 (wT hw 59 rfl) (wT hw 29 rfl) (by decide) (by decide)) qa311 qb312 qc313 (g := (mkF m 68 #[.val (.int av), .val (.int bv), .val (.int cv), .val (.int nv), .val (.int iv), .val (.int tv), .val (.int ((1 : Int32) + ((nv &&& (2147483647 : Int32)) % (3 : Int32)))), .val (.ref r41), .val (.ref r71), .val (.ref r102), .val (.ref a123), .val (.ref a170), .unset, .unset, .unset, .unset] [(.ref r273), (.ref a170)])) rfl (by rw [hml]; rfl) (Steps.refl _) (argsL := [(.ref r273)]) (rest := []) (lenOf own_h515 rfl) rfl (by show 2 * 0 + _ ≤ _; exact Nat.le_of_eq rfl) (hb hby at_68) (fun _ _ => ⟨rfl, e296, own_l rfl, own_l rfl⟩)
 dsimp only [Pt.U, Pt.locs, Pt.cells, Pt.slots] at X301 l_304 y_305 z_306 st307 hQ303
 subst l_304 y_305 z_306
 obtain ⟨r315, kr316, rfl, N314, K327, F317, F318, F319, F320, F321, F322, F323, F324, F325, F326, -⟩ := hQ303
 have N328 := Fr.app N279 N314
 have F329 := F280.keep K327
 have F330 := F281.keep K327
 have F331 := F282.keep K327
 have F332 := F283.keep K327
 have F333 := F284.keep K327
 have F334 := F288.keep K327 (ninS ne209 nin0)
 have F335 := F289.keep K327 (ninS ne209 nin0)
 have F336 := F290.keep K327 (ninS ne209 nin0)
 have ne338 : a170 ≠ r235 := Nat.ne_of_lt (Nat.lt_of_lt_of_le F198.lt F244)
 have F337 := F291.keep K327 (ninS (Ne.symm ne338) nin0)
 have F339 := F292.keep K327
 have F340 := F274.keep K327
 have F341 := F275.keep K327 (ninS (Ne.symm ne308) nin0)
 have Z342 : n0 ≤ T297.heap.size := Nat.le_trans Z293 K327.1
 have hk343 := Nat.le_trans hk294 K327.1
 have O344 := O295.keep K327 (allS G172 all0)
 have e345 : T297.heap = T297.heap := rfl
 have k19 : own_J p e below T297 m 73 #[.val (.int av), .val (.int bv), .val (.int cv), .val (.int nv), .val (.int iv), .val (.int tv), .val (.int ((1 : Int32) + ((nv &&& (2147483647 : Int32)) % (3 : Int32)))), .val (.ref r41), .val (.ref r71), .val (.ref r102), .val (.ref a123), .val (.ref a170), .unset, .unset, .unset, .unset] [(.int (1 : Int32))] B_ := fun t_ hh => k18 t_ (st307.trans hh)
 have k20 : own_J p e below T297 m 74 #[.val (.int av), .val (.int bv), .val (.int cv), .val (.int nv), .val (.int iv), .val (.int tv), .val (.int ((1 : Int32) + ((nv &&& (2147483647 : Int32)) % (3 : Int32)))), .val (.ref r41), .val (.ref r71), .val (.ref r102), .val (.ref a123), .val (.ref a170), .unset, .unset, .unset, .unset] [] B_ := fun t_ hh => k19 t_ (by
  refine XS.pop X301.here hx rfl (hb hby at_73) rfl rfl ?_
  exact hh)
 rcases (own_size nv) with ec346 | ec346 | ec346
 ·
  have k21 : own_J p e below T297 m 74 #[.val (.int av), .val (.int bv), .val (.int cv), .val (.int nv), .val (.int iv), .val (.int tv), .val (.int (1 : Int32)), .val (.ref r41), .val (.ref r71), .val (.ref r102), .val (.ref a123), .val (.ref a170), .unset, .unset, .unset, .unset] [] B_ := by have q := k20; rw [ec346] at q; exact q
  have k22 : own_J p e below T297 m 158 #[.val (.int av), .val (.int bv), .val (.int cv), .val (.int nv), .val (.int iv), .val (.int tv), .val (.int (1 : Int32)), .val (.ref r41), .val (.ref r71), .val (.ref r102), .val (.ref a123), .val (.ref a170), .unset, .unset, .unset, .unset] [(.int ((((tv.toUInt32 >>> ((24 : Int32) &&& 31).toUInt32).toInt32) &&& (255 : Int32)).toUInt32.toUInt16.toUInt32.toInt32))] B_ := fun t_ hh => k21 t_ (by
   refine XS.iload X301.here hx rfl (hb hby at_74) rfl ?_
   refine XS.iconst X301.here hx rfl (hb hby at_76) ?_
   refine XS.icmpYes X301.here hx rfl (pc0 := 77) (pc' := 111) rfl (hb hby at_77) rfl (by decide) (by decide) (by decide) ?_
   refine XS.iload X301.here hx rfl (hb hby at_111) rfl ?_
   refine XS.iconst X301.here hx rfl (hb hby at_113) ?_
   refine XS.icmpYes X301.here hx rfl (pc0 := 114) (pc' := 148) rfl (hb hby at_114) rfl (by decide) (by decide) (by decide) ?_
   refine XS.iload X301.here hx rfl (hb hby at_148) rfl ?_
   refine XS.bipush X301.here hx rfl (hb hby at_150) ?_
   refine XS.iushr X301.here hx rfl (hb hby at_152) rfl ?_
   refine XS.sipush X301.here hx rfl (hb hby at_153) ?_
   refine XS.iand X301.here hx rfl (hb hby at_156) rfl ?_
   refine XS.i2c X301.here hx rfl (hb hby at_157) rfl ?_
   show Steps p.tables e below (T297.setTop (mkF m 158 #[.val (.int av), .val (.int bv), .val (.int cv), .val (.int nv), .val (.int iv), .val (.int tv), .val (.int (1 : Int32)), .val (.ref r41), .val (.ref r71), .val (.ref r102), .val (.ref a123), .val (.ref a170), .unset, .unset, .unset, .unset] [(.int ((((tv.toUInt32 >>> ((24 : Int32) &&& 31).toUInt32).toInt32) &&& (255 : Int32)).toUInt32.toUInt16.toUInt32.toInt32))])) _
   exact hh)
  obtain ⟨_, _, ⟨T347, L348, k_349, n_350⟩, -, X351, ⟨Lc352, hQ353, l_354, y_355, z_356⟩, st357⟩ := Jvm.LawKit.callS X301 hx (y := (⟨"java/lang/String", "valueOf", "(C)Ljava/lang/String;"⟩ : MethodName)) hown99 (mvT hZ98 (wT hw 106 rfl)) (mvT hZ98 (wT hw 107 rfl)) (mvT hZ98 (wT hw 7 rfl)) (mvT hZ98 (wT hw 108 rfl)) (by decide) (backOf (W := 0) (rmVo l Z a0 hw [] ((((tv.toUInt32 >>> ((24 : Int32) &&& 31).toUInt32).toInt32) &&& (255 : Int32)).toUInt32.toUInt16.toUInt32.toInt32) T297.heap n0 Z342 O344 (own_b8_mask _) ci sC hc) hZ98 (wT hw 108 rfl) (wT hw 7 rfl) (by decide) (by decide)) (g := (mkF m 158 #[.val (.int av), .val (.int bv), .val (.int cv), .val (.int nv), .val (.int iv), .val (.int tv), .val (.int (1 : Int32)), .val (.ref r41), .val (.ref r71), .val (.ref r102), .val (.ref a123), .val (.ref a170), .unset, .unset, .unset, .unset] [(.int ((((tv.toUInt32 >>> ((24 : Int32) &&& 31).toUInt32).toInt32) &&& (255 : Int32)).toUInt32.toUInt16.toUInt32.toInt32))])) rfl (by rw [hml]; rfl) (argsL := [(.int ((((tv.toUInt32 >>> ((24 : Int32) &&& 31).toUInt32).toInt32) &&& (255 : Int32)).toUInt32.toUInt16.toUInt32.toInt32))]) (rest := []) (lenOf own_h517 rfl) rfl (by show 2 * 0 + _ ≤ _; exact Nat.le_of_eq rfl) (hb hby at_158) (fun _ _ => ⟨rfl, e345, own_l rfl, own_l rfl⟩)
  dsimp only [Pt.U, Pt.locs, Pt.cells, Pt.slots] at X351 l_354 y_355 z_356 st357 hQ353
  subst l_354 y_355 z_356
  obtain ⟨r359, rfl, N358, K363, F360, F361, F362, -⟩ := hQ353
  have N364 := Fr.app N328 N358
  have F365 := F329.keep K363
  have F366 := F330.keep K363
  have F367 := F331.keep K363
  have F368 := F332.keep K363
  have F369 := F317.keep K363
  have F370 := F334.keep K363 nin0
  have F371 := F335.keep K363 nin0
  have F372 := F336.keep K363 nin0
  have F373 := F337.keep K363 nin0
  have F374 := F339.keep K363
  have F375 := F340.keep K363
  have F376 := F341.keep K363 nin0
  have F377 := F318.keep K363 nin0
  have F378 := F319.keep K363 nin0
  have F379 := F320.keep K363 nin0
  have F380 := F321.keep K363 nin0
  have F381 := F326.keep K363
  have Z382 : n0 ≤ T347.heap.size := Nat.le_trans Z342 K363.1
  have hk383 := Nat.le_trans hk343 K363.1
  have O384 := O344.keep K363 all0
  have e385 : T347.heap = T347.heap := rfl
  have k23 : own_J p e below T347 m 161 #[.val (.int av), .val (.int bv), .val (.int cv), .val (.int nv), .val (.int iv), .val (.int tv), .val (.int (1 : Int32)), .val (.ref r41), .val (.ref r71), .val (.ref r102), .val (.ref a123), .val (.ref a170), .unset, .unset, .unset, .unset] [(.ref r359)] B_ := fun t_ hh => k22 t_ (st357 t_ hh)
  have k24 : own_J p e below T347 m 163 #[.val (.int av), .val (.int bv), .val (.int cv), .val (.int nv), .val (.int iv), .val (.int tv), .val (.int (1 : Int32)), .val (.ref r41), .val (.ref r71), .val (.ref r102), .val (.ref a123), .val (.ref a170), .val (.ref r359), .unset, .unset, .unset] [] B_ := fun t_ hh => k23 t_ (by
   refine XS.astore X351.here hx rfl (hb hby at_161) rfl rfl (l' := #[.val (.int av), .val (.int bv), .val (.int cv), .val (.int nv), .val (.int iv), .val (.int tv), .val (.int (1 : Int32)), .val (.ref r41), .val (.ref r71), .val (.ref r102), .val (.ref a123), .val (.ref a170), .val (.ref r359), .unset, .unset, .unset]) rfl ?_
   exact hh)
  obtain ⟨T386, h387, X388, e389, E390, A391, D392, U394, st393⟩ := newO X351 hx hZ98 hown99 (wT hw 121 rfl) (wT hw 122 rfl) (wT hw 123 rfl) e385 (g := (mkF m 163 #[.val (.int av), .val (.int bv), .val (.int cv), .val (.int nv), .val (.int iv), .val (.int tv), .val (.int (1 : Int32)), .val (.ref r41), .val (.ref r71), .val (.ref r102), .val (.ref a123), .val (.ref a170), .val (.ref r359), .unset, .unset, .unset] [])) rfl (hb hby at_163) (by decide) (by decide)
  obtain ⟨a395, g396⟩ : ∃ z, z = T347.heap.size := ⟨_, rfl⟩
  rw [← g396] at A391 D392 U394 st393
  have G397 : n0 ≤ a395 := Nat.le_trans Z382 (Nat.le_of_eq g396.symm)
  have hk398 := Nat.le_trans hk383 E390.1
  have F399 := Exa.ext (h' := h387) E390 F365
  have F400 := Exa.ext (h' := h387) E390 F366
  have F401 := Exa.ext (h' := h387) E390 F367
  have F402 := Exa.ext (h' := h387) E390 F368
  have F403 := Exa.ext (h' := h387) E390 F369
  have F404 := Fld.ext (h' := h387) E390 F370
  have F405 := Fld.ext (h' := h387) E390 F371
  have F406 := Fld.ext (h' := h387) E390 F372
  have F407 := F373.ext E390
  have F408 := Exa.ext (h' := h387) E390 F374
  have F409 := Exa.ext (h' := h387) E390 F375
  have F410 := Fld.ext (h' := h387) E390 F376
  have F411 := Fld.ext (h' := h387) E390 F377
  have F412 := Fld.ext (h' := h387) E390 F378
  have F413 := Fld.ext (h' := h387) E390 F379
  have F414 := F380.ext E390
  have F415 := Exa.ext (h' := h387) E390 F381
  have F416 := Exa.ext (h' := h387) E390 F360
  have Z417 : n0 ≤ h387.size := Nat.le_trans Z382 E390.1
  have O418 := O384.ext E390
  have F419 : Fld Z h387 a395 "com/example/level_slate/levelslate/TopicCandidates" "topic" "Ljava/lang/String;" .null := D392 (Or.inr (wT hw 165 rfl)) (ty := .object "java/lang/String") (by decide)
  have F420 : Fld Z h387 a395 "com/example/level_slate/levelslate/TopicCandidates" "candidates" "Ljava/util/List;" .null := D392 (Or.inr (wT hw 251 rfl)) (ty := .object "java/util/List") (by decide)
  have F421 : Fld Z h387 a395 "com/example/level_slate/levelslate/TopicCandidates" "runScores" "[D" .null := D392 (Or.inr (wT hw 253 rfl)) (ty := .array .double) (by decide)
  have k25 : own_J p e below T386 m 166 #[.val (.int av), .val (.int bv), .val (.int cv), .val (.int nv), .val (.int iv), .val (.int tv), .val (.int (1 : Int32)), .val (.ref r41), .val (.ref r71), .val (.ref r102), .val (.ref a123), .val (.ref a170), .val (.ref r359), .unset, .unset, .unset] [(.ref a395)] B_ := fun t_ hh => k24 t_ (st393 t_ hh)
  have k26 : own_J p e below T386 m 173 #[.val (.int av), .val (.int bv), .val (.int cv), .val (.int nv), .val (.int iv), .val (.int tv), .val (.int (1 : Int32)), .val (.ref r41), .val (.ref r71), .val (.ref r102), .val (.ref a123), .val (.ref a170), .val (.ref r359), .unset, .unset, .unset] [(.ref a170), (.ref a123), (.ref r359), (.ref a395), (.ref a395)] B_ := fun t_ hh => k25 t_ (by
   refine XS.dup X388.here hx rfl (hb hby at_166) rfl rfl ?_
   refine XS.aload X388.here hx rfl (hb hby at_167) rfl rfl ?_
   refine XS.aload X388.here hx rfl (hb hby at_169) rfl rfl ?_
   refine XS.aload X388.here hx rfl (hb hby at_171) rfl rfl ?_
   exact hh)
  have ne433 : a123 ≠ a395 := by rw [g396]; exact Nat.ne_of_lt F368.lt
  have ne434 : r235 ≠ a395 := by rw [g396]; exact Nat.ne_of_lt F373.lt
  have ne435 : a170 ≠ a395 := by rw [g396]; exact Nat.ne_of_lt F369.lt
  have ne436 : r315 ≠ a395 := by rw [g396]; exact Nat.ne_of_lt F380.lt
  have ne437 : r273 ≠ a395 := by rw [g396]; exact Nat.ne_of_lt F375.lt
  obtain ⟨_, _, ⟨T422, L423, k_424, n_425⟩, -, X426, ⟨Lc427, hQ428, l_429, y_430, z_431⟩, st432⟩ := X388.specialBack hx (y := (⟨"com/example/level_slate/levelslate/TopicCandidates", "<init>", "(Ljava/lang/String;Ljava/util/List;Ljava/util/List;)V"⟩ : MethodName)) rfl hown99 (mvT hZ98 (wT hw 124 rfl)) (mvT hZ98 (wT hw 125 rfl)) (mvT hZ98 (wT hw 126 rfl)) (by decide) (backOf (W := 1) (rmTC1 l Z a0 hw [] a395 r359 a123 r235 kr236 a170 r315 kr316 r41 r273 (FP.i2d (tv &&& (255 : Int32))) em h387 n0 Z417 A391 F419 F420 F421 G397 O418 F402 F405 F406 F408 F407 F403 F412 F413 F414 F399 F409 F410 ne433 ne434 ne435 ne436 ne437 sE mr hM) hZ98 (wT hw 126 rfl) (wT hw 123 rfl) (by decide) (by decide)) (g := (mkF m 173 #[.val (.int av), .val (.int bv), .val (.int cv), .val (.int nv), .val (.int iv), .val (.int tv), .val (.int (1 : Int32)), .val (.ref r41), .val (.ref r71), .val (.ref r102), .val (.ref a123), .val (.ref a170), .val (.ref r359), .unset, .unset, .unset] [(.ref a170), (.ref a123), (.ref r359), (.ref a395), (.ref a395)])) rfl (by rw [hml]; rfl) (Steps.refl _) (a := a395) (argsL := [(.ref r359), (.ref a123), (.ref a170)]) (rest := [(.ref a395)]) (lenOf own_h518 rfl) rfl (by show 2 * 0 + _ ≤ _; exact Nat.le_of_eq rfl) (hb hby at_173) (fun _ _ => ⟨rfl, e389, own_l rfl, own_l rfl⟩)
  dsimp only [Pt.U, Pt.locs, Pt.cells, Pt.slots] at X426 l_429 y_430 z_431 st432 hQ428
  subst l_429 y_430 z_431
  obtain ⟨r439, rfl, N438, K445, F440, F441, F442, F443, F444, -⟩ := hQ428
  have N446 := Fr.app N364 N438
  have F447 := F399.keep K445
  have F448 := F400.keep K445
  have F449 := F401.keep K445
  have F450 := F402.keep K445
  have F451 := F403.keep K445
  have F452 := F404.keep K445 (ninS ne433 nin0)
  have F453 := F405.keep K445 (ninS ne433 nin0)
  have F454 := F406.keep K445 (ninS ne433 nin0)
  have F455 := F407.keep K445 (ninS ne434 nin0)
  have F456 := F408.keep K445
  have F457 := F409.keep K445
  have F458 := F410.keep K445 (ninS ne437 nin0)
  have F459 := F411.keep K445 (ninS ne435 nin0)
  have F460 := F412.keep K445 (ninS ne435 nin0)
  have F461 := F413.keep K445 (ninS ne435 nin0)
  have F462 := F414.keep K445 (ninS ne436 nin0)
  have F463 := F415.keep K445
  have F464 := F416.keep K445
  have F465 := A391.keep K445
  have Z466 : n0 ≤ T422.heap.size := Nat.le_trans Z417 K445.1
  have hk467 := Nat.le_trans hk398 K445.1
  have O468 := O418.keep K445 (allS G397 all0)
  have e469 : T422.heap = T422.heap := rfl
  have k27 : own_J p e below T422 m 176 #[.val (.int av), .val (.int bv), .val (.int cv), .val (.int nv), .val (.int iv), .val (.int tv), .val (.int (1 : Int32)), .val (.ref r41), .val (.ref r71), .val (.ref r102), .val (.ref a123), .val (.ref a170), .val (.ref r359), .unset, .unset, .unset] [(.ref a395)] B_ := fun t_ hh => k26 t_ (st432.trans hh)
  have k28 : own_J p e below T422 m 188 #[.val (.int av), .val (.int bv), .val (.int cv), .val (.int nv), .val (.int iv), .val (.int tv), .val (.int (1 : Int32)), .val (.ref r41), .val (.ref r71), .val (.ref r102), .val (.ref a123), .val (.ref a170), .val (.ref r359), .val (.ref a395), .val (.int ((iv &&& (2147483647 : Int32)) % (1 : Int32))), .unset] [] B_ := fun t_ hh => k27 t_ (by
   refine XS.astore X426.here hx rfl (hb hby at_176) rfl rfl (l' := #[.val (.int av), .val (.int bv), .val (.int cv), .val (.int nv), .val (.int iv), .val (.int tv), .val (.int (1 : Int32)), .val (.ref r41), .val (.ref r71), .val (.ref r102), .val (.ref a123), .val (.ref a170), .val (.ref r359), .val (.ref a395), .unset, .unset]) rfl ?_
   refine XS.iload X426.here hx rfl (hb hby at_178) rfl ?_
   refine X426.ldcInt hx hown99 (mvT hZ98 (wT hw 0 rfl)) (g := (mkF m 180 #[.val (.int av), .val (.int bv), .val (.int cv), .val (.int nv), .val (.int iv), .val (.int tv), .val (.int (1 : Int32)), .val (.ref r41), .val (.ref r71), .val (.ref r102), .val (.ref a123), .val (.ref a170), .val (.ref r359), .val (.ref a395), .unset, .unset] [(.int iv)])) rfl (hb hby at_180) _ ?_
   refine XS.iand X426.here hx rfl (hb hby at_182) rfl ?_
   refine XS.iload X426.here hx rfl (hb hby at_183) rfl ?_
   refine iremM X426 hx (g := (mkF m 185 #[.val (.int av), .val (.int bv), .val (.int cv), .val (.int nv), .val (.int iv), .val (.int tv), .val (.int (1 : Int32)), .val (.ref r41), .val (.ref r71), .val (.ref r102), .val (.ref a123), .val (.ref a170), .val (.ref r359), .val (.ref a395), .unset, .unset] [(.int (1 : Int32)), (.int (iv &&& (2147483647 : Int32)))])) rfl (hb hby at_185) rfl (by decide) ?_
   refine XS.istore X426.here hx rfl (hb hby at_186) rfl (l' := #[.val (.int av), .val (.int bv), .val (.int cv), .val (.int nv), .val (.int iv), .val (.int tv), .val (.int (1 : Int32)), .val (.ref r41), .val (.ref r71), .val (.ref r102), .val (.ref a123), .val (.ref a170), .val (.ref r359), .val (.ref a395), .val (.int ((iv &&& (2147483647 : Int32)) % (1 : Int32))), .unset]) rfl ?_
   exact hh)
  have ec470 := (own_idx1 iv)
  ·
   have k29 : own_J p e below T422 m 188 #[.val (.int av), .val (.int bv), .val (.int cv), .val (.int nv), .val (.int iv), .val (.int tv), .val (.int (1 : Int32)), .val (.ref r41), .val (.ref r71), .val (.ref r102), .val (.ref a123), .val (.ref a170), .val (.ref r359), .val (.ref a395), .val (.int (0 : Int32)), .unset] [] B_ := by have q := k28; rw [ec470] at q; exact q
   have k30 : own_J p e below T422 m 223 #[.val (.int av), .val (.int bv), .val (.int cv), .val (.int nv), .val (.int iv), .val (.int tv), .val (.int (1 : Int32)), .val (.ref r41), .val (.ref r71), .val (.ref r102), .val (.ref a123), .val (.ref a170), .val (.ref r359), .val (.ref a395), .val (.int (0 : Int32)), .val (.ref r41)] [(.int (0 : Int32)), (.ref a395), (.ref r41)] B_ := fun t_ hh => k29 t_ (by
    refine XS.iload X426.here hx rfl (hb hby at_188) rfl ?_
    refine XS.ifNo X426.here hx rfl (hb hby at_190) rfl (by decide) ?_
    refine XS.aload X426.here hx rfl (hb hby at_193) rfl rfl ?_
    refine XS.astore X426.here hx rfl (hb hby at_195) rfl rfl (l' := #[.val (.int av), .val (.int bv), .val (.int cv), .val (.int nv), .val (.int iv), .val (.int tv), .val (.int (1 : Int32)), .val (.ref r41), .val (.ref r71), .val (.ref r102), .val (.ref a123), .val (.ref a170), .val (.ref r359), .val (.ref a395), .val (.int (0 : Int32)), .val (.ref r41)]) rfl ?_
    refine XS.goto X426.here hx rfl (pc0 := 197) (pc' := 217) rfl (hb hby at_197) (by decide) (by decide) ?_
    refine XS.aload X426.here hx rfl (hb hby at_217) rfl rfl ?_
    refine XS.aload X426.here hx rfl (hb hby at_219) rfl rfl ?_
    refine XS.iload X426.here hx rfl (hb hby at_221) rfl ?_
    exact hh)
   obtain ⟨cq482, kq483, qa484, qb485, qc486⟩ := isOf hZ98 e469 F440
   obtain ⟨_, _, ⟨T471, L472, k_473, n_474⟩, -, X475, ⟨Lc476, hQ477, l_478, y_479, z_480⟩, st481⟩ := X426.virtualBack hx (y := (⟨"com/example/level_slate/levelslate/TopicCandidates", "getCandidate", "(I)Ljava/lang/String;"⟩ : MethodName)) (z := (⟨"com/example/level_slate/levelslate/TopicCandidates", "getCandidate", "(I)Ljava/lang/String;"⟩ : MethodName)) hown99 (mvT hZ98 (wT hw 254 rfl)) (mvT hZ98 (wT hw 255 rfl)) (notFace_of_selects (args := #[]) (mvT hZ98 (wT hw 257 rfl))) (mvT hZ98 (wT hw 257 rfl)) (mvT hZ98 (wT hw 256 rfl)) (by decide) (backOf (W := 1) (rmGc20 l Z a0 hw [] a395 r439 r41 T422.heap n0 Z466 F441 F442 F443 F447 ) hZ98 (wT hw 258 rfl) (wT hw 123 rfl) (by decide) (by decide)) qa484 qc486 (g := (mkF m 223 #[.val (.int av), .val (.int bv), .val (.int cv), .val (.int nv), .val (.int iv), .val (.int tv), .val (.int (1 : Int32)), .val (.ref r41), .val (.ref r71), .val (.ref r102), .val (.ref a123), .val (.ref a170), .val (.ref r359), .val (.ref a395), .val (.int (0 : Int32)), .val (.ref r41)] [(.int (0 : Int32)), (.ref a395), (.ref r41)])) rfl (by rw [hml]; rfl) (Steps.refl _) (argsL := [(.int (0 : Int32))]) (rest := [(.ref r41)]) (lenOf own_h514 rfl) rfl (by show 2 * 0 + _ ≤ _; exact Nat.le_of_eq rfl) (hb hby at_223) (fun _ _ => ⟨rfl, e469, own_l rfl, own_l rfl⟩)
   dsimp only [Pt.U, Pt.locs, Pt.cells, Pt.slots] at X475 l_478 y_479 z_480 st481 hQ477
   subst l_478 y_479 z_480
   obtain ⟨rfl, N487, e488⟩ := hQ477
   have N489 := Fr.app N446 N487
   have k31 : own_J p e below T471 m 226 #[.val (.int av), .val (.int bv), .val (.int cv), .val (.int nv), .val (.int iv), .val (.int tv), .val (.int (1 : Int32)), .val (.ref r41), .val (.ref r71), .val (.ref r102), .val (.ref a123), .val (.ref a170), .val (.ref r359), .val (.ref a395), .val (.int (0 : Int32)), .val (.ref r41)] [(.ref r41), (.ref r41)] B_ := fun t_ hh => k30 t_ (st481.trans hh)
   obtain ⟨cq501, kq502, qa503, qb504, qc505⟩ := isOf hZ98 e488 F447
   obtain ⟨_, _, ⟨T490, L491, k_492, n_493⟩, -, X494, ⟨Lc495, hQ496, l_497, y_498, z_499⟩, st500⟩ := X475.virtualBack hx (y := (⟨"java/lang/String", "equals", "(Ljava/lang/Object;)Z"⟩ : MethodName)) (z := (⟨"java/lang/String", "equals", "(Ljava/lang/Object;)Z"⟩ : MethodName)) hown99 (mvT hZ98 (wT hw 266 rfl)) (mvT hZ98 (wT hw 267 rfl)) (notFace_of_selects (args := #[]) (mvT hZ98 (wT hw 269 rfl))) (mvT hZ98 (wT hw 269 rfl)) (mvT hZ98 (wT hw 268 rfl)) (by decide) (backOf (W := 0) (rmEq l Z a0 hw [] r41 T422.heap n0 Z466  ) hZ98 (wT hw 270 rfl) (wT hw 7 rfl) (by decide) (by decide)) qa503 qc505 (g := (mkF m 226 #[.val (.int av), .val (.int bv), .val (.int cv), .val (.int nv), .val (.int iv), .val (.int tv), .val (.int (1 : Int32)), .val (.ref r41), .val (.ref r71), .val (.ref r102), .val (.ref a123), .val (.ref a170), .val (.ref r359), .val (.ref a395), .val (.int (0 : Int32)), .val (.ref r41)] [(.ref r41), (.ref r41)])) rfl (by rw [hml]; rfl) (Steps.refl _) (argsL := [(.ref r41)]) (rest := []) (lenOf own_h515 rfl) rfl (by show 2 * 0 + _ ≤ _; exact Nat.le_of_eq rfl) (hb hby at_226) (fun _ _ => ⟨rfl, e488, own_l rfl, own_l rfl⟩)
   dsimp only [Pt.U, Pt.locs, Pt.cells, Pt.slots] at X494 l_497 y_498 z_499 st500 hQ496
   subst l_497 y_498 z_499
   obtain ⟨rfl, N506, e507⟩ := hQ496
   have N508 := Fr.app N489 N506
   have k32 : own_J p e below T490 m 229 #[.val (.int av), .val (.int bv), .val (.int cv), .val (.int nv), .val (.int iv), .val (.int tv), .val (.int (1 : Int32)), .val (.ref r41), .val (.ref r71), .val (.ref r102), .val (.ref a123), .val (.ref a170), .val (.ref r359), .val (.ref a395), .val (.int (0 : Int32)), .val (.ref r41)] [(.int (1 : Int32))] B_ := fun t_ hh => k31 t_ (st500.trans hh)
   obtain ⟨fs, hr, hrun, hended, hEnd⟩ := X494.leaveW hS97 (by rw [e507]; exact hk467) (v := some (.int (1 : Int32))) (fun h => by rw [Bd.returns] at h; cases h)
   refine ⟨_, _, (own_from hB_ (k32 _ (retN X494 hx (t := .boolean) Bd.returns (by simp) (hb hby at_229) hr))), hrun, hended, _, _, rfl, ?_, hEnd.1, hEnd.2.1, hEnd.2.2.1, hEnd.2.2.2.mono (own_l rfl) (own_l rfl)⟩
   show QL h0 n0 _ T490.heap _
   rw [e507]
   exact ⟨rfl, N508⟩
 ·
  have k33 : own_J p e below T297 m 74 #[.val (.int av), .val (.int bv), .val (.int cv), .val (.int nv), .val (.int iv), .val (.int tv), .val (.int (2 : Int32)), .val (.ref r41), .val (.ref r71), .val (.ref r102), .val (.ref a123), .val (.ref a170), .unset, .unset, .unset, .unset] [] B_ := by have q := k20; rw [ec346] at q; exact q
  have k34 : own_J p e below T297 m 84 #[.val (.int av), .val (.int bv), .val (.int cv), .val (.int nv), .val (.int iv), .val (.int tv), .val (.int (2 : Int32)), .val (.ref r41), .val (.ref r71), .val (.ref r102), .val (.ref a123), .val (.ref a170), .unset, .unset, .unset, .unset] [(.ref r71), (.ref a123)] B_ := fun t_ hh => k33 t_ (by
   refine XS.iload X301.here hx rfl (hb hby at_74) rfl ?_
   refine XS.iconst X301.here hx rfl (hb hby at_76) ?_
   refine XS.icmpNo X301.here hx rfl (hb hby at_77) rfl (by decide) ?_
   refine XS.aload X301.here hx rfl (hb hby at_80) rfl rfl ?_
   refine XS.aload X301.here hx rfl (hb hby at_82) rfl rfl ?_
   exact hh)
  obtain ⟨cq520, kq521, qa522, qb523, qc524⟩ := isOf hZ98 e345 F332
  obtain ⟨_, _, ⟨T509, L510, k_511, n_512⟩, -, X513, ⟨Lc514, hQ515, l_516, y_517, z_518⟩, st519⟩ := X301.interfaceBack hx (xi := (⟨"java/util/List", "add", "(Ljava/lang/Object;)Z"⟩ : MethodName)) (y := (⟨"java/util/ArrayList", "add", "(Ljava/lang/Object;)Z"⟩ : MethodName)) hown99 (mvT hZ98 (wT hw 51 rfl)) (mvT hZ98 (wT hw 52 rfl)) (mvT hZ98 (wT hw 53 rfl)) (mvT hZ98 (wT hw 54 rfl)) (mvT hZ98 (wT hw 55 rfl)) (mvT hZ98 (wT hw 56 rfl)) (mvT hZ98 (wT hw 57 rfl)) (mvT hZ98 (wT hw 58 rfl)) (by decide) (backOf (W := 0) (rmAdS1 l Z a0 hw [] a123 r71 r235 kr236 r41 T297.heap n0 Z342 F332 F334 F335 F336 G125 F337 F242 F243 F245 (Ins.of_exa F330 (wT hw 85 rfl)) ) hZ98 (wT hw 59 rfl) (wT hw 29 rfl) (by decide) (by decide)) qa522 qb523 qc524 (g := (mkF m 84 #[.val (.int av), .val (.int bv), .val (.int cv), .val (.int nv), .val (.int iv), .val (.int tv), .val (.int (2 : Int32)), .val (.ref r41), .val (.ref r71), .val (.ref r102), .val (.ref a123), .val (.ref a170), .unset, .unset, .unset, .unset] [(.ref r71), (.ref a123)])) rfl (by rw [hml]; rfl) (Steps.refl _) (argsL := [(.ref r71)]) (rest := []) (lenOf own_h515 rfl) rfl (by show 2 * 0 + _ ≤ _; exact Nat.le_of_eq rfl) (hb hby at_84) (fun _ _ => ⟨rfl, e345, own_l rfl, own_l rfl⟩)
  dsimp only [Pt.U, Pt.locs, Pt.cells, Pt.slots] at X513 l_516 y_517 z_518 st519 hQ515
  subst l_516 y_517 z_518
  obtain ⟨rfl, N525, K532, F526, F527, F528, F529, F530, F531, -⟩ := hQ515
  have N533 := Fr.app N328 N525
  have F534 := F329.keep K532
  have F535 := F330.keep K532
  have F536 := F331.keep K532
  have F537 := F332.keep K532
  have F538 := F317.keep K532
  have F539 := F339.keep K532
  have F540 := F340.keep K532
  have ne542 : r235 ≠ r273 := Nat.ne_of_lt (Nat.lt_of_lt_of_le F241.lt F277)
  have ne543 : a123 ≠ r273 := Nat.ne_of_lt (Nat.lt_of_lt_of_le F237.lt F277)
  have F541 := F341.keep K532 (ninS (Ne.symm ne543) (ninS (Ne.symm ne542) nin0))
  have F544 := F318.keep K532 (ninS (Ne.symm ne209) (ninS ne338 nin0))
  have F545 := F319.keep K532 (ninS (Ne.symm ne209) (ninS ne338 nin0))
  have F546 := F320.keep K532 (ninS (Ne.symm ne209) (ninS ne338 nin0))
  have ne548 : r235 ≠ r315 := Nat.ne_of_lt (Nat.lt_of_lt_of_le F291.lt F324)
  have ne549 : a123 ≠ r315 := Nat.ne_of_lt (Nat.lt_of_lt_of_le F283.lt F324)
  have F547 := F321.keep K532 (ninS (Ne.symm ne549) (ninS (Ne.symm ne548) nin0))
  have F550 := F326.keep K532
  have Z551 : n0 ≤ T509.heap.size := Nat.le_trans Z342 K532.1
  have hk552 := Nat.le_trans hk343 K532.1
  have O553 := O344.keep K532 (allS G125 (allS F243 all0))
  have e554 : T509.heap = T509.heap := rfl
  have k35 : own_J p e below T509 m 89 #[.val (.int av), .val (.int bv), .val (.int cv), .val (.int nv), .val (.int iv), .val (.int tv), .val (.int (2 : Int32)), .val (.ref r41), .val (.ref r71), .val (.ref r102), .val (.ref a123), .val (.ref a170), .unset, .unset, .unset, .unset] [(.int (1 : Int32))] B_ := fun t_ hh => k34 t_ (st519.trans hh)
  have k36 : own_J p e below T509 m 102 #[.val (.int av), .val (.int bv), .val (.int cv), .val (.int nv), .val (.int iv), .val (.int tv), .val (.int (2 : Int32)), .val (.ref r41), .val (.ref r71), .val (.ref r102), .val (.ref a123), .val (.ref a170), .unset, .unset, .unset, .unset] [(.double (FP.i2d (((tv.toUInt32 >>> ((8 : Int32) &&& 31).toUInt32).toInt32) &&& (255 : Int32)))), (.ref a170)] B_ := fun t_ hh => k35 t_ (by
   refine XS.pop X513.here hx rfl (hb hby at_89) rfl rfl ?_
   refine XS.aload X513.here hx rfl (hb hby at_90) rfl rfl ?_
   refine XS.iload X513.here hx rfl (hb hby at_92) rfl ?_
   refine XS.bipush X513.here hx rfl (hb hby at_94) ?_
   refine XS.iushr X513.here hx rfl (hb hby at_96) rfl ?_
   refine XS.sipush X513.here hx rfl (hb hby at_97) ?_
   refine XS.iand X513.here hx rfl (hb hby at_100) rfl ?_
   refine XS.i2dS X513.here hx rfl (hb hby at_101) rfl rfl ?_
   exact hh)
  obtain ⟨_, _, ⟨T555, L556, k_557, n_558⟩, -, X559, ⟨Lc560, hQ561, l_562, y_563, z_564⟩, st565⟩ := Jvm.LawKit.callS X513 hx (y := (⟨"java/lang/Double", "valueOf", "(D)Ljava/lang/Double;"⟩ : MethodName)) hown99 (mvT hZ98 (wT hw 86 rfl)) (mvT hZ98 (wT hw 87 rfl)) (mvT hZ98 (wT hw 88 rfl)) (mvT hZ98 (wT hw 89 rfl)) (by decide) (backOf (W := 1) (rmDv l Z a0 hw [] (FP.i2d (((tv.toUInt32 >>> ((8 : Int32) &&& 31).toUInt32).toInt32) &&& (255 : Int32))) T509.heap n0 Z551  ) hZ98 (wT hw 89 rfl) (wT hw 88 rfl) (by decide) (by decide)) (g := (mkF m 102 #[.val (.int av), .val (.int bv), .val (.int cv), .val (.int nv), .val (.int iv), .val (.int tv), .val (.int (2 : Int32)), .val (.ref r41), .val (.ref r71), .val (.ref r102), .val (.ref a123), .val (.ref a170), .unset, .unset, .unset, .unset] [(.double (FP.i2d (((tv.toUInt32 >>> ((8 : Int32) &&& 31).toUInt32).toInt32) &&& (255 : Int32)))), (.ref a170)])) rfl (by rw [hml]; rfl) (argsL := [(.double (FP.i2d (((tv.toUInt32 >>> ((8 : Int32) &&& 31).toUInt32).toInt32) &&& (255 : Int32))))]) (rest := [(.ref a170)]) (lenOf own_h516 rfl) rfl (by show 2 * 0 + _ ≤ _; exact Nat.le_of_eq rfl) (hb hby at_102) (fun _ _ => ⟨rfl, e554, own_l rfl, own_l rfl⟩)
  dsimp only [Pt.U, Pt.locs, Pt.cells, Pt.slots] at X559 l_562 y_563 z_564 st565 hQ561
  subst l_562 y_563 z_564
  obtain ⟨r567, rfl, N566, K572, F568, F569, F570, F571, -⟩ := hQ561
  have N573 := Fr.app N533 N566
  have F574 := F534.keep K572
  have F575 := F535.keep K572
  have F576 := F536.keep K572
  have F577 := F526.keep K572
  have F578 := F538.keep K572
  have F579 := F539.keep K572
  have F580 := F540.keep K572
  have F581 := F541.keep K572 nin0
  have F582 := F544.keep K572 nin0
  have F583 := F545.keep K572 nin0
  have F584 := F546.keep K572 nin0
  have F585 := F547.keep K572 nin0
  have F586 := F550.keep K572
  have F587 := F527.keep K572 nin0
  have F588 := F528.keep K572 nin0
  have F589 := F529.keep K572 nin0
  have F590 := F530.keep K572 nin0
  have Z591 : n0 ≤ T555.heap.size := Nat.le_trans Z551 K572.1
  have hk592 := Nat.le_trans hk552 K572.1
  have O593 := O553.keep K572 all0
  have e594 : T555.heap = T555.heap := rfl
  have k37 : own_J p e below T555 m 105 #[.val (.int av), .val (.int bv), .val (.int cv), .val (.int nv), .val (.int iv), .val (.int tv), .val (.int (2 : Int32)), .val (.ref r41), .val (.ref r71), .val (.ref r102), .val (.ref a123), .val (.ref a170), .unset, .unset, .unset, .unset] [(.ref r567), (.ref a170)] B_ := fun t_ hh => k36 t_ (st565 t_ hh)
  obtain ⟨cq606, kq607, qa608, qb609, qc610⟩ := isOf hZ98 e594 F578
  obtain ⟨_, _, ⟨T595, L596, k_597, n_598⟩, -, X599, ⟨Lc600, hQ601, l_602, y_603, z_604⟩, st605⟩ := X559.interfaceBack hx (xi := (⟨"java/util/List", "add", "(Ljava/lang/Object;)Z"⟩ : MethodName)) (y := (⟨"java/util/ArrayList", "add", "(Ljava/lang/Object;)Z"⟩ : MethodName)) hown99 (mvT hZ98 (wT hw 51 rfl)) (mvT hZ98 (wT hw 52 rfl)) (mvT hZ98 (wT hw 53 rfl)) (mvT hZ98 (wT hw 54 rfl)) (mvT hZ98 (wT hw 55 rfl)) (mvT hZ98 (wT hw 56 rfl)) (mvT hZ98 (wT hw 57 rfl)) (mvT hZ98 (wT hw 58 rfl)) (by decide) (backOf (W := 0) (rmAdS1 l Z a0 hw [] a170 r567 r315 kr316 r273 T555.heap n0 Z591 F578 F582 F583 F584 G172 F585 F322 F323 F325 (Ins.of_exa F568 (wT hw 105 rfl)) ) hZ98 (wT hw 59 rfl) (wT hw 29 rfl) (by decide) (by decide)) qa608 qb609 qc610 (g := (mkF m 105 #[.val (.int av), .val (.int bv), .val (.int cv), .val (.int nv), .val (.int iv), .val (.int tv), .val (.int (2 : Int32)), .val (.ref r41), .val (.ref r71), .val (.ref r102), .val (.ref a123), .val (.ref a170), .unset, .unset, .unset, .unset] [(.ref r567), (.ref a170)])) rfl (by rw [hml]; rfl) (Steps.refl _) (argsL := [(.ref r567)]) (rest := []) (lenOf own_h515 rfl) rfl (by show 2 * 0 + _ ≤ _; exact Nat.le_of_eq rfl) (hb hby at_105) (fun _ _ => ⟨rfl, e594, own_l rfl, own_l rfl⟩)
  dsimp only [Pt.U, Pt.locs, Pt.cells, Pt.slots] at X599 l_602 y_603 z_604 st605 hQ601
  subst l_602 y_603 z_604
  obtain ⟨rfl, N611, K618, F612, F613, F614, F615, F616, F617, -⟩ := hQ601
  have N619 := Fr.app N573 N611
  have F620 := F574.keep K618
  have F621 := F575.keep K618
  have F622 := F576.keep K618
  have F623 := F577.keep K618
  have F624 := F578.keep K618
  have F625 := F579.keep K618
  have F626 := F580.keep K618
  have ne628 : r273 ≠ r315 := Nat.ne_of_lt (Nat.lt_of_lt_of_le F274.lt F324)
  have F627 := F581.keep K618 (ninS (Ne.symm ne308) (ninS ne628 nin0))
  have F629 := F586.keep K618
  have F630 := F587.keep K618 (ninS ne209 (ninS ne549 nin0))
  have F631 := F588.keep K618 (ninS ne209 (ninS ne549 nin0))
  have F632 := F589.keep K618 (ninS ne209 (ninS ne549 nin0))
  have F633 := F590.keep K618 (ninS (Ne.symm ne338) (ninS ne548 nin0))
  have F634 := F568.keep K618
  have ne636 : r315 ≠ r567 := Nat.ne_of_lt (Nat.lt_of_lt_of_le F547.lt F571)
  have ne637 : a170 ≠ r567 := Nat.ne_of_lt (Nat.lt_of_lt_of_le F538.lt F571)
  have F635 := F569.keep K618 (ninS (Ne.symm ne637) (ninS (Ne.symm ne636) nin0))
  have Z638 : n0 ≤ T595.heap.size := Nat.le_trans Z591 K618.1
  have hk639 := Nat.le_trans hk592 K618.1
  have O640 := O593.keep K618 (allS G172 (allS F323 all0))
  have e641 : T595.heap = T595.heap := rfl
  have k38 : own_J p e below T595 m 110 #[.val (.int av), .val (.int bv), .val (.int cv), .val (.int nv), .val (.int iv), .val (.int tv), .val (.int (2 : Int32)), .val (.ref r41), .val (.ref r71), .val (.ref r102), .val (.ref a123), .val (.ref a170), .unset, .unset, .unset, .unset] [(.int (1 : Int32))] B_ := fun t_ hh => k37 t_ (st605.trans hh)
  have k39 : own_J p e below T595 m 158 #[.val (.int av), .val (.int bv), .val (.int cv), .val (.int nv), .val (.int iv), .val (.int tv), .val (.int (2 : Int32)), .val (.ref r41), .val (.ref r71), .val (.ref r102), .val (.ref a123), .val (.ref a170), .unset, .unset, .unset, .unset] [(.int ((((tv.toUInt32 >>> ((24 : Int32) &&& 31).toUInt32).toInt32) &&& (255 : Int32)).toUInt32.toUInt16.toUInt32.toInt32))] B_ := fun t_ hh => k38 t_ (by
   refine XS.pop X599.here hx rfl (hb hby at_110) rfl rfl ?_
   refine XS.iload X599.here hx rfl (hb hby at_111) rfl ?_
   refine XS.iconst X599.here hx rfl (hb hby at_113) ?_
   refine XS.icmpYes X599.here hx rfl (pc0 := 114) (pc' := 148) rfl (hb hby at_114) rfl (by decide) (by decide) (by decide) ?_
   refine XS.iload X599.here hx rfl (hb hby at_148) rfl ?_
   refine XS.bipush X599.here hx rfl (hb hby at_150) ?_
   refine XS.iushr X599.here hx rfl (hb hby at_152) rfl ?_
   refine XS.sipush X599.here hx rfl (hb hby at_153) ?_
   refine XS.iand X599.here hx rfl (hb hby at_156) rfl ?_
   refine XS.i2c X599.here hx rfl (hb hby at_157) rfl ?_
   exact hh)
  obtain ⟨_, _, ⟨T642, L643, k_644, n_645⟩, -, X646, ⟨Lc647, hQ648, l_649, y_650, z_651⟩, st652⟩ := Jvm.LawKit.callS X599 hx (y := (⟨"java/lang/String", "valueOf", "(C)Ljava/lang/String;"⟩ : MethodName)) hown99 (mvT hZ98 (wT hw 106 rfl)) (mvT hZ98 (wT hw 107 rfl)) (mvT hZ98 (wT hw 7 rfl)) (mvT hZ98 (wT hw 108 rfl)) (by decide) (backOf (W := 0) (rmVo l Z a0 hw [] ((((tv.toUInt32 >>> ((24 : Int32) &&& 31).toUInt32).toInt32) &&& (255 : Int32)).toUInt32.toUInt16.toUInt32.toInt32) T595.heap n0 Z638 O640 (own_b8_mask _) ci sC hc) hZ98 (wT hw 108 rfl) (wT hw 7 rfl) (by decide) (by decide)) (g := (mkF m 158 #[.val (.int av), .val (.int bv), .val (.int cv), .val (.int nv), .val (.int iv), .val (.int tv), .val (.int (2 : Int32)), .val (.ref r41), .val (.ref r71), .val (.ref r102), .val (.ref a123), .val (.ref a170), .unset, .unset, .unset, .unset] [(.int ((((tv.toUInt32 >>> ((24 : Int32) &&& 31).toUInt32).toInt32) &&& (255 : Int32)).toUInt32.toUInt16.toUInt32.toInt32))])) rfl (by rw [hml]; rfl) (argsL := [(.int ((((tv.toUInt32 >>> ((24 : Int32) &&& 31).toUInt32).toInt32) &&& (255 : Int32)).toUInt32.toUInt16.toUInt32.toInt32))]) (rest := []) (lenOf own_h517 rfl) rfl (by show 2 * 0 + _ ≤ _; exact Nat.le_of_eq rfl) (hb hby at_158) (fun _ _ => ⟨rfl, e641, own_l rfl, own_l rfl⟩)
  dsimp only [Pt.U, Pt.locs, Pt.cells, Pt.slots] at X646 l_649 y_650 z_651 st652 hQ648
  subst l_649 y_650 z_651
  obtain ⟨r654, rfl, N653, K658, F655, F656, F657, -⟩ := hQ648
  have N659 := Fr.app N619 N653
  have F660 := F620.keep K658
  have F661 := F621.keep K658
  have F662 := F622.keep K658
  have F663 := F623.keep K658
  have F664 := F612.keep K658
  have F665 := F625.keep K658
  have F666 := F626.keep K658
  have F667 := F627.keep K658 nin0
  have F668 := F629.keep K658
  have F669 := F630.keep K658 nin0
  have F670 := F631.keep K658 nin0
  have F671 := F632.keep K658 nin0
  have F672 := F633.keep K658 nin0
  have F673 := F634.keep K658
  have F674 := F635.keep K658 nin0
  have F675 := F613.keep K658 nin0
  have F676 := F614.keep K658 nin0
  have F677 := F615.keep K658 nin0
  have F678 := F616.keep K658 nin0
  have Z679 : n0 ≤ T642.heap.size := Nat.le_trans Z638 K658.1
  have hk680 := Nat.le_trans hk639 K658.1
  have O681 := O640.keep K658 all0
  have e682 : T642.heap = T642.heap := rfl
  have k40 : own_J p e below T642 m 161 #[.val (.int av), .val (.int bv), .val (.int cv), .val (.int nv), .val (.int iv), .val (.int tv), .val (.int (2 : Int32)), .val (.ref r41), .val (.ref r71), .val (.ref r102), .val (.ref a123), .val (.ref a170), .unset, .unset, .unset, .unset] [(.ref r654)] B_ := fun t_ hh => k39 t_ (st652 t_ hh)
  have k41 : own_J p e below T642 m 163 #[.val (.int av), .val (.int bv), .val (.int cv), .val (.int nv), .val (.int iv), .val (.int tv), .val (.int (2 : Int32)), .val (.ref r41), .val (.ref r71), .val (.ref r102), .val (.ref a123), .val (.ref a170), .val (.ref r654), .unset, .unset, .unset] [] B_ := fun t_ hh => k40 t_ (by
   refine XS.astore X646.here hx rfl (hb hby at_161) rfl rfl (l' := #[.val (.int av), .val (.int bv), .val (.int cv), .val (.int nv), .val (.int iv), .val (.int tv), .val (.int (2 : Int32)), .val (.ref r41), .val (.ref r71), .val (.ref r102), .val (.ref a123), .val (.ref a170), .val (.ref r654), .unset, .unset, .unset]) rfl ?_
   exact hh)
  obtain ⟨T683, h684, X685, e686, E687, A688, D689, U691, st690⟩ := newO X646 hx hZ98 hown99 (wT hw 121 rfl) (wT hw 122 rfl) (wT hw 123 rfl) e682 (g := (mkF m 163 #[.val (.int av), .val (.int bv), .val (.int cv), .val (.int nv), .val (.int iv), .val (.int tv), .val (.int (2 : Int32)), .val (.ref r41), .val (.ref r71), .val (.ref r102), .val (.ref a123), .val (.ref a170), .val (.ref r654), .unset, .unset, .unset] [])) rfl (hb hby at_163) (by decide) (by decide)
  obtain ⟨a692, g693⟩ : ∃ z, z = T642.heap.size := ⟨_, rfl⟩
  rw [← g693] at A688 D689 U691 st690
  have G694 : n0 ≤ a692 := Nat.le_trans Z679 (Nat.le_of_eq g693.symm)
  have hk695 := Nat.le_trans hk680 E687.1
  have F696 := Exa.ext (h' := h684) E687 F660
  have F697 := Exa.ext (h' := h684) E687 F661
  have F698 := Exa.ext (h' := h684) E687 F662
  have F699 := Exa.ext (h' := h684) E687 F663
  have F700 := Exa.ext (h' := h684) E687 F664
  have F701 := Exa.ext (h' := h684) E687 F665
  have F702 := Exa.ext (h' := h684) E687 F666
  have F703 := Fld.ext (h' := h684) E687 F667
  have F704 := Exa.ext (h' := h684) E687 F668
  have F705 := Fld.ext (h' := h684) E687 F669
  have F706 := Fld.ext (h' := h684) E687 F670
  have F707 := Fld.ext (h' := h684) E687 F671
  have F708 := F672.ext E687
  have F709 := Exa.ext (h' := h684) E687 F673
  have F710 := Fld.ext (h' := h684) E687 F674
  have F711 := Fld.ext (h' := h684) E687 F675
  have F712 := Fld.ext (h' := h684) E687 F676
  have F713 := Fld.ext (h' := h684) E687 F677
  have F714 := F678.ext E687
  have F715 := Exa.ext (h' := h684) E687 F655
  have Z716 : n0 ≤ h684.size := Nat.le_trans Z679 E687.1
  have O717 := O681.ext E687
  have F718 : Fld Z h684 a692 "com/example/level_slate/levelslate/TopicCandidates" "topic" "Ljava/lang/String;" .null := D689 (Or.inr (wT hw 165 rfl)) (ty := .object "java/lang/String") (by decide)
  have F719 : Fld Z h684 a692 "com/example/level_slate/levelslate/TopicCandidates" "candidates" "Ljava/util/List;" .null := D689 (Or.inr (wT hw 251 rfl)) (ty := .object "java/util/List") (by decide)
  have F720 : Fld Z h684 a692 "com/example/level_slate/levelslate/TopicCandidates" "runScores" "[D" .null := D689 (Or.inr (wT hw 253 rfl)) (ty := .array .double) (by decide)
  have k42 : own_J p e below T683 m 166 #[.val (.int av), .val (.int bv), .val (.int cv), .val (.int nv), .val (.int iv), .val (.int tv), .val (.int (2 : Int32)), .val (.ref r41), .val (.ref r71), .val (.ref r102), .val (.ref a123), .val (.ref a170), .val (.ref r654), .unset, .unset, .unset] [(.ref a692)] B_ := fun t_ hh => k41 t_ (st690 t_ hh)
  have k43 : own_J p e below T683 m 173 #[.val (.int av), .val (.int bv), .val (.int cv), .val (.int nv), .val (.int iv), .val (.int tv), .val (.int (2 : Int32)), .val (.ref r41), .val (.ref r71), .val (.ref r102), .val (.ref a123), .val (.ref a170), .val (.ref r654), .unset, .unset, .unset] [(.ref a170), (.ref a123), (.ref r654), (.ref a692), (.ref a692)] B_ := fun t_ hh => k42 t_ (by
   refine XS.dup X685.here hx rfl (hb hby at_166) rfl rfl ?_
   refine XS.aload X685.here hx rfl (hb hby at_167) rfl rfl ?_
   refine XS.aload X685.here hx rfl (hb hby at_169) rfl rfl ?_
   refine XS.aload X685.here hx rfl (hb hby at_171) rfl rfl ?_
   exact hh)
  have ne732 : a123 ≠ a692 := by rw [g693]; exact Nat.ne_of_lt F663.lt
  have ne733 : r235 ≠ a692 := by rw [g693]; exact Nat.ne_of_lt F665.lt
  have ne734 : a170 ≠ a692 := by rw [g693]; exact Nat.ne_of_lt F664.lt
  have ne735 : r315 ≠ a692 := by rw [g693]; exact Nat.ne_of_lt F668.lt
  have ne736 : r273 ≠ a692 := by rw [g693]; exact Nat.ne_of_lt F666.lt
  have ne737 : r567 ≠ a692 := by rw [g693]; exact Nat.ne_of_lt F673.lt
  obtain ⟨_, _, ⟨T721, L722, k_723, n_724⟩, -, X725, ⟨Lc726, hQ727, l_728, y_729, z_730⟩, st731⟩ := X685.specialBack hx (y := (⟨"com/example/level_slate/levelslate/TopicCandidates", "<init>", "(Ljava/lang/String;Ljava/util/List;Ljava/util/List;)V"⟩ : MethodName)) rfl hown99 (mvT hZ98 (wT hw 124 rfl)) (mvT hZ98 (wT hw 125 rfl)) (mvT hZ98 (wT hw 126 rfl)) (by decide) (backOf (W := 1) (rmTC2 l Z a0 hw [] a692 r654 a123 r235 kr236 a170 r315 kr316 r41 r71 r273 r567 (FP.i2d (tv &&& (255 : Int32))) (FP.i2d (((tv.toUInt32 >>> ((8 : Int32) &&& 31).toUInt32).toInt32) &&& (255 : Int32))) em h684 n0 Z716 A688 F718 F719 F720 G694 O717 F699 F706 F707 F701 F708 F700 F712 F713 F714 F696 F697 F702 F703 F709 F710 ne732 ne733 ne734 ne735 ne736 ne737 sE mr hM) hZ98 (wT hw 126 rfl) (wT hw 123 rfl) (by decide) (by decide)) (g := (mkF m 173 #[.val (.int av), .val (.int bv), .val (.int cv), .val (.int nv), .val (.int iv), .val (.int tv), .val (.int (2 : Int32)), .val (.ref r41), .val (.ref r71), .val (.ref r102), .val (.ref a123), .val (.ref a170), .val (.ref r654), .unset, .unset, .unset] [(.ref a170), (.ref a123), (.ref r654), (.ref a692), (.ref a692)])) rfl (by rw [hml]; rfl) (Steps.refl _) (a := a692) (argsL := [(.ref r654), (.ref a123), (.ref a170)]) (rest := [(.ref a692)]) (lenOf own_h518 rfl) rfl (by show 2 * 0 + _ ≤ _; exact Nat.le_of_eq rfl) (hb hby at_173) (fun _ _ => ⟨rfl, e686, own_l rfl, own_l rfl⟩)
  dsimp only [Pt.U, Pt.locs, Pt.cells, Pt.slots] at X725 l_728 y_729 z_730 st731 hQ727
  subst l_728 y_729 z_730
  obtain ⟨r739, rfl, N738, K745, F740, F741, F742, F743, F744, -⟩ := hQ727
  have N746 := Fr.app N659 N738
  have F747 := F696.keep K745
  have F748 := F697.keep K745
  have F749 := F698.keep K745
  have F750 := F699.keep K745
  have F751 := F700.keep K745
  have F752 := F701.keep K745
  have F753 := F702.keep K745
  have F754 := F703.keep K745 (ninS ne736 nin0)
  have F755 := F704.keep K745
  have F756 := F705.keep K745 (ninS ne732 nin0)
  have F757 := F706.keep K745 (ninS ne732 nin0)
  have F758 := F707.keep K745 (ninS ne732 nin0)
  have F759 := F708.keep K745 (ninS ne733 nin0)
  have F760 := F709.keep K745
  have F761 := F710.keep K745 (ninS ne737 nin0)
  have F762 := F711.keep K745 (ninS ne734 nin0)
  have F763 := F712.keep K745 (ninS ne734 nin0)
  have F764 := F713.keep K745 (ninS ne734 nin0)
  have F765 := F714.keep K745 (ninS ne735 nin0)
  have F766 := F715.keep K745
  have F767 := A688.keep K745
  have Z768 : n0 ≤ T721.heap.size := Nat.le_trans Z716 K745.1
  have hk769 := Nat.le_trans hk695 K745.1
  have O770 := O717.keep K745 (allS G694 all0)
  have e771 : T721.heap = T721.heap := rfl
  have k44 : own_J p e below T721 m 176 #[.val (.int av), .val (.int bv), .val (.int cv), .val (.int nv), .val (.int iv), .val (.int tv), .val (.int (2 : Int32)), .val (.ref r41), .val (.ref r71), .val (.ref r102), .val (.ref a123), .val (.ref a170), .val (.ref r654), .unset, .unset, .unset] [(.ref a692)] B_ := fun t_ hh => k43 t_ (st731.trans hh)
  have k45 : own_J p e below T721 m 188 #[.val (.int av), .val (.int bv), .val (.int cv), .val (.int nv), .val (.int iv), .val (.int tv), .val (.int (2 : Int32)), .val (.ref r41), .val (.ref r71), .val (.ref r102), .val (.ref a123), .val (.ref a170), .val (.ref r654), .val (.ref a692), .val (.int ((iv &&& (2147483647 : Int32)) % (2 : Int32))), .unset] [] B_ := fun t_ hh => k44 t_ (by
   refine XS.astore X725.here hx rfl (hb hby at_176) rfl rfl (l' := #[.val (.int av), .val (.int bv), .val (.int cv), .val (.int nv), .val (.int iv), .val (.int tv), .val (.int (2 : Int32)), .val (.ref r41), .val (.ref r71), .val (.ref r102), .val (.ref a123), .val (.ref a170), .val (.ref r654), .val (.ref a692), .unset, .unset]) rfl ?_
   refine XS.iload X725.here hx rfl (hb hby at_178) rfl ?_
   refine X725.ldcInt hx hown99 (mvT hZ98 (wT hw 0 rfl)) (g := (mkF m 180 #[.val (.int av), .val (.int bv), .val (.int cv), .val (.int nv), .val (.int iv), .val (.int tv), .val (.int (2 : Int32)), .val (.ref r41), .val (.ref r71), .val (.ref r102), .val (.ref a123), .val (.ref a170), .val (.ref r654), .val (.ref a692), .unset, .unset] [(.int iv)])) rfl (hb hby at_180) _ ?_
   refine XS.iand X725.here hx rfl (hb hby at_182) rfl ?_
   refine XS.iload X725.here hx rfl (hb hby at_183) rfl ?_
   refine iremM X725 hx (g := (mkF m 185 #[.val (.int av), .val (.int bv), .val (.int cv), .val (.int nv), .val (.int iv), .val (.int tv), .val (.int (2 : Int32)), .val (.ref r41), .val (.ref r71), .val (.ref r102), .val (.ref a123), .val (.ref a170), .val (.ref r654), .val (.ref a692), .unset, .unset] [(.int (2 : Int32)), (.int (iv &&& (2147483647 : Int32)))])) rfl (hb hby at_185) rfl (by decide) ?_
   refine XS.istore X725.here hx rfl (hb hby at_186) rfl (l' := #[.val (.int av), .val (.int bv), .val (.int cv), .val (.int nv), .val (.int iv), .val (.int tv), .val (.int (2 : Int32)), .val (.ref r41), .val (.ref r71), .val (.ref r102), .val (.ref a123), .val (.ref a170), .val (.ref r654), .val (.ref a692), .val (.int ((iv &&& (2147483647 : Int32)) % (2 : Int32))), .unset]) rfl ?_
   exact hh)
  rcases (own_idx2 iv) with ec772 | ec772
  ·
   have k46 : own_J p e below T721 m 188 #[.val (.int av), .val (.int bv), .val (.int cv), .val (.int nv), .val (.int iv), .val (.int tv), .val (.int (2 : Int32)), .val (.ref r41), .val (.ref r71), .val (.ref r102), .val (.ref a123), .val (.ref a170), .val (.ref r654), .val (.ref a692), .val (.int (0 : Int32)), .unset] [] B_ := by have q := k45; rw [ec772] at q; exact q
   have k47 : own_J p e below T721 m 223 #[.val (.int av), .val (.int bv), .val (.int cv), .val (.int nv), .val (.int iv), .val (.int tv), .val (.int (2 : Int32)), .val (.ref r41), .val (.ref r71), .val (.ref r102), .val (.ref a123), .val (.ref a170), .val (.ref r654), .val (.ref a692), .val (.int (0 : Int32)), .val (.ref r41)] [(.int (0 : Int32)), (.ref a692), (.ref r41)] B_ := fun t_ hh => k46 t_ (by
    refine XS.iload X725.here hx rfl (hb hby at_188) rfl ?_
    refine XS.ifNo X725.here hx rfl (hb hby at_190) rfl (by decide) ?_
    refine XS.aload X725.here hx rfl (hb hby at_193) rfl rfl ?_
    refine XS.astore X725.here hx rfl (hb hby at_195) rfl rfl (l' := #[.val (.int av), .val (.int bv), .val (.int cv), .val (.int nv), .val (.int iv), .val (.int tv), .val (.int (2 : Int32)), .val (.ref r41), .val (.ref r71), .val (.ref r102), .val (.ref a123), .val (.ref a170), .val (.ref r654), .val (.ref a692), .val (.int (0 : Int32)), .val (.ref r41)]) rfl ?_
    refine XS.goto X725.here hx rfl (pc0 := 197) (pc' := 217) rfl (hb hby at_197) (by decide) (by decide) ?_
    refine XS.aload X725.here hx rfl (hb hby at_217) rfl rfl ?_
    refine XS.aload X725.here hx rfl (hb hby at_219) rfl rfl ?_
    refine XS.iload X725.here hx rfl (hb hby at_221) rfl ?_
    exact hh)
   obtain ⟨cq784, kq785, qa786, qb787, qc788⟩ := isOf hZ98 e771 F740
   obtain ⟨_, _, ⟨T773, L774, k_775, n_776⟩, -, X777, ⟨Lc778, hQ779, l_780, y_781, z_782⟩, st783⟩ := X725.virtualBack hx (y := (⟨"com/example/level_slate/levelslate/TopicCandidates", "getCandidate", "(I)Ljava/lang/String;"⟩ : MethodName)) (z := (⟨"com/example/level_slate/levelslate/TopicCandidates", "getCandidate", "(I)Ljava/lang/String;"⟩ : MethodName)) hown99 (mvT hZ98 (wT hw 254 rfl)) (mvT hZ98 (wT hw 255 rfl)) (notFace_of_selects (args := #[]) (mvT hZ98 (wT hw 257 rfl))) (mvT hZ98 (wT hw 257 rfl)) (mvT hZ98 (wT hw 256 rfl)) (by decide) (backOf (W := 1) (rmGc20 l Z a0 hw [] a692 r739 r41 T721.heap n0 Z768 F741 F742 F743 F747 ) hZ98 (wT hw 258 rfl) (wT hw 123 rfl) (by decide) (by decide)) qa786 qc788 (g := (mkF m 223 #[.val (.int av), .val (.int bv), .val (.int cv), .val (.int nv), .val (.int iv), .val (.int tv), .val (.int (2 : Int32)), .val (.ref r41), .val (.ref r71), .val (.ref r102), .val (.ref a123), .val (.ref a170), .val (.ref r654), .val (.ref a692), .val (.int (0 : Int32)), .val (.ref r41)] [(.int (0 : Int32)), (.ref a692), (.ref r41)])) rfl (by rw [hml]; rfl) (Steps.refl _) (argsL := [(.int (0 : Int32))]) (rest := [(.ref r41)]) (lenOf own_h514 rfl) rfl (by show 2 * 0 + _ ≤ _; exact Nat.le_of_eq rfl) (hb hby at_223) (fun _ _ => ⟨rfl, e771, own_l rfl, own_l rfl⟩)
   dsimp only [Pt.U, Pt.locs, Pt.cells, Pt.slots] at X777 l_780 y_781 z_782 st783 hQ779
   subst l_780 y_781 z_782
   obtain ⟨rfl, N789, e790⟩ := hQ779
   have N791 := Fr.app N746 N789
   have k48 : own_J p e below T773 m 226 #[.val (.int av), .val (.int bv), .val (.int cv), .val (.int nv), .val (.int iv), .val (.int tv), .val (.int (2 : Int32)), .val (.ref r41), .val (.ref r71), .val (.ref r102), .val (.ref a123), .val (.ref a170), .val (.ref r654), .val (.ref a692), .val (.int (0 : Int32)), .val (.ref r41)] [(.ref r41), (.ref r41)] B_ := fun t_ hh => k47 t_ (st783.trans hh)
   obtain ⟨cq803, kq804, qa805, qb806, qc807⟩ := isOf hZ98 e790 F747
   obtain ⟨_, _, ⟨T792, L793, k_794, n_795⟩, -, X796, ⟨Lc797, hQ798, l_799, y_800, z_801⟩, st802⟩ := X777.virtualBack hx (y := (⟨"java/lang/String", "equals", "(Ljava/lang/Object;)Z"⟩ : MethodName)) (z := (⟨"java/lang/String", "equals", "(Ljava/lang/Object;)Z"⟩ : MethodName)) hown99 (mvT hZ98 (wT hw 266 rfl)) (mvT hZ98 (wT hw 267 rfl)) (notFace_of_selects (args := #[]) (mvT hZ98 (wT hw 269 rfl))) (mvT hZ98 (wT hw 269 rfl)) (mvT hZ98 (wT hw 268 rfl)) (by decide) (backOf (W := 0) (rmEq l Z a0 hw [] r41 T721.heap n0 Z768  ) hZ98 (wT hw 270 rfl) (wT hw 7 rfl) (by decide) (by decide)) qa805 qc807 (g := (mkF m 226 #[.val (.int av), .val (.int bv), .val (.int cv), .val (.int nv), .val (.int iv), .val (.int tv), .val (.int (2 : Int32)), .val (.ref r41), .val (.ref r71), .val (.ref r102), .val (.ref a123), .val (.ref a170), .val (.ref r654), .val (.ref a692), .val (.int (0 : Int32)), .val (.ref r41)] [(.ref r41), (.ref r41)])) rfl (by rw [hml]; rfl) (Steps.refl _) (argsL := [(.ref r41)]) (rest := []) (lenOf own_h515 rfl) rfl (by show 2 * 0 + _ ≤ _; exact Nat.le_of_eq rfl) (hb hby at_226) (fun _ _ => ⟨rfl, e790, own_l rfl, own_l rfl⟩)
   dsimp only [Pt.U, Pt.locs, Pt.cells, Pt.slots] at X796 l_799 y_800 z_801 st802 hQ798
   subst l_799 y_800 z_801
   obtain ⟨rfl, N808, e809⟩ := hQ798
   have N810 := Fr.app N791 N808
   have k49 : own_J p e below T792 m 229 #[.val (.int av), .val (.int bv), .val (.int cv), .val (.int nv), .val (.int iv), .val (.int tv), .val (.int (2 : Int32)), .val (.ref r41), .val (.ref r71), .val (.ref r102), .val (.ref a123), .val (.ref a170), .val (.ref r654), .val (.ref a692), .val (.int (0 : Int32)), .val (.ref r41)] [(.int (1 : Int32))] B_ := fun t_ hh => k48 t_ (st802.trans hh)
   obtain ⟨fs, hr, hrun, hended, hEnd⟩ := X796.leaveW hS97 (by rw [e809]; exact hk769) (v := some (.int (1 : Int32))) (fun h => by rw [Bd.returns] at h; cases h)
   refine ⟨_, _, (own_from hB_ (k49 _ (retN X796 hx (t := .boolean) Bd.returns (by simp) (hb hby at_229) hr))), hrun, hended, _, _, rfl, ?_, hEnd.1, hEnd.2.1, hEnd.2.2.1, hEnd.2.2.2.mono (own_l rfl) (own_l rfl)⟩
   show QL h0 n0 _ T792.heap _
   rw [e809]
   exact ⟨rfl, N810⟩
  ·
   have k50 : own_J p e below T721 m 188 #[.val (.int av), .val (.int bv), .val (.int cv), .val (.int nv), .val (.int iv), .val (.int tv), .val (.int (2 : Int32)), .val (.ref r41), .val (.ref r71), .val (.ref r102), .val (.ref a123), .val (.ref a170), .val (.ref r654), .val (.ref a692), .val (.int (1 : Int32)), .unset] [] B_ := by have q := k45; rw [ec772] at q; exact q
   have k51 : own_J p e below T721 m 223 #[.val (.int av), .val (.int bv), .val (.int cv), .val (.int nv), .val (.int iv), .val (.int tv), .val (.int (2 : Int32)), .val (.ref r41), .val (.ref r71), .val (.ref r102), .val (.ref a123), .val (.ref a170), .val (.ref r654), .val (.ref a692), .val (.int (1 : Int32)), .val (.ref r71)] [(.int (1 : Int32)), (.ref a692), (.ref r71)] B_ := fun t_ hh => k50 t_ (by
    refine XS.iload X725.here hx rfl (hb hby at_188) rfl ?_
    refine XS.ifYes X725.here hx rfl (pc0 := 190) (pc' := 200) rfl (hb hby at_190) rfl (by decide) (by decide) (by decide) ?_
    refine XS.iload X725.here hx rfl (hb hby at_200) rfl ?_
    refine XS.iconst X725.here hx rfl (hb hby at_202) ?_
    refine XS.icmpNo X725.here hx rfl (hb hby at_203) rfl (by decide) ?_
    refine XS.aload X725.here hx rfl (hb hby at_206) rfl rfl ?_
    refine XS.astore X725.here hx rfl (hb hby at_208) rfl rfl (l' := #[.val (.int av), .val (.int bv), .val (.int cv), .val (.int nv), .val (.int iv), .val (.int tv), .val (.int (2 : Int32)), .val (.ref r41), .val (.ref r71), .val (.ref r102), .val (.ref a123), .val (.ref a170), .val (.ref r654), .val (.ref a692), .val (.int (1 : Int32)), .val (.ref r71)]) rfl ?_
    refine XS.goto X725.here hx rfl (pc0 := 210) (pc' := 217) rfl (hb hby at_210) (by decide) (by decide) ?_
    refine XS.aload X725.here hx rfl (hb hby at_217) rfl rfl ?_
    refine XS.aload X725.here hx rfl (hb hby at_219) rfl rfl ?_
    refine XS.iload X725.here hx rfl (hb hby at_221) rfl ?_
    exact hh)
   obtain ⟨cq822, kq823, qa824, qb825, qc826⟩ := isOf hZ98 e771 F740
   obtain ⟨_, _, ⟨T811, L812, k_813, n_814⟩, -, X815, ⟨Lc816, hQ817, l_818, y_819, z_820⟩, st821⟩ := X725.virtualBack hx (y := (⟨"com/example/level_slate/levelslate/TopicCandidates", "getCandidate", "(I)Ljava/lang/String;"⟩ : MethodName)) (z := (⟨"com/example/level_slate/levelslate/TopicCandidates", "getCandidate", "(I)Ljava/lang/String;"⟩ : MethodName)) hown99 (mvT hZ98 (wT hw 254 rfl)) (mvT hZ98 (wT hw 255 rfl)) (notFace_of_selects (args := #[]) (mvT hZ98 (wT hw 257 rfl))) (mvT hZ98 (wT hw 257 rfl)) (mvT hZ98 (wT hw 256 rfl)) (by decide) (backOf (W := 1) (rmGc21 l Z a0 hw [] a692 r739 r71 em T721.heap n0 Z768 F741 F742 F744 F748 O770 (Nat.ne_of_gt (Nat.lt_of_lt_of_le hEm F73)) sE) hZ98 (wT hw 258 rfl) (wT hw 123 rfl) (by decide) (by decide)) qa824 qc826 (g := (mkF m 223 #[.val (.int av), .val (.int bv), .val (.int cv), .val (.int nv), .val (.int iv), .val (.int tv), .val (.int (2 : Int32)), .val (.ref r41), .val (.ref r71), .val (.ref r102), .val (.ref a123), .val (.ref a170), .val (.ref r654), .val (.ref a692), .val (.int (1 : Int32)), .val (.ref r71)] [(.int (1 : Int32)), (.ref a692), (.ref r71)])) rfl (by rw [hml]; rfl) (Steps.refl _) (argsL := [(.int (1 : Int32))]) (rest := [(.ref r71)]) (lenOf own_h514 rfl) rfl (by show 2 * 0 + _ ≤ _; exact Nat.le_of_eq rfl) (hb hby at_223) (fun _ _ => ⟨rfl, e771, own_l rfl, own_l rfl⟩)
   dsimp only [Pt.U, Pt.locs, Pt.cells, Pt.slots] at X815 l_818 y_819 z_820 st821 hQ817
   subst l_818 y_819 z_820
   obtain ⟨rfl, N827, e828⟩ := hQ817
   have N829 := Fr.app N746 N827
   have k52 : own_J p e below T811 m 226 #[.val (.int av), .val (.int bv), .val (.int cv), .val (.int nv), .val (.int iv), .val (.int tv), .val (.int (2 : Int32)), .val (.ref r41), .val (.ref r71), .val (.ref r102), .val (.ref a123), .val (.ref a170), .val (.ref r654), .val (.ref a692), .val (.int (1 : Int32)), .val (.ref r71)] [(.ref r71), (.ref r71)] B_ := fun t_ hh => k51 t_ (st821.trans hh)
   obtain ⟨cq841, kq842, qa843, qb844, qc845⟩ := isOf hZ98 e828 F748
   obtain ⟨_, _, ⟨T830, L831, k_832, n_833⟩, -, X834, ⟨Lc835, hQ836, l_837, y_838, z_839⟩, st840⟩ := X815.virtualBack hx (y := (⟨"java/lang/String", "equals", "(Ljava/lang/Object;)Z"⟩ : MethodName)) (z := (⟨"java/lang/String", "equals", "(Ljava/lang/Object;)Z"⟩ : MethodName)) hown99 (mvT hZ98 (wT hw 266 rfl)) (mvT hZ98 (wT hw 267 rfl)) (notFace_of_selects (args := #[]) (mvT hZ98 (wT hw 269 rfl))) (mvT hZ98 (wT hw 269 rfl)) (mvT hZ98 (wT hw 268 rfl)) (by decide) (backOf (W := 0) (rmEq l Z a0 hw [] r71 T721.heap n0 Z768  ) hZ98 (wT hw 270 rfl) (wT hw 7 rfl) (by decide) (by decide)) qa843 qc845 (g := (mkF m 226 #[.val (.int av), .val (.int bv), .val (.int cv), .val (.int nv), .val (.int iv), .val (.int tv), .val (.int (2 : Int32)), .val (.ref r41), .val (.ref r71), .val (.ref r102), .val (.ref a123), .val (.ref a170), .val (.ref r654), .val (.ref a692), .val (.int (1 : Int32)), .val (.ref r71)] [(.ref r71), (.ref r71)])) rfl (by rw [hml]; rfl) (Steps.refl _) (argsL := [(.ref r71)]) (rest := []) (lenOf own_h515 rfl) rfl (by show 2 * 0 + _ ≤ _; exact Nat.le_of_eq rfl) (hb hby at_226) (fun _ _ => ⟨rfl, e828, own_l rfl, own_l rfl⟩)
   dsimp only [Pt.U, Pt.locs, Pt.cells, Pt.slots] at X834 l_837 y_838 z_839 st840 hQ836
   subst l_837 y_838 z_839
   obtain ⟨rfl, N846, e847⟩ := hQ836
   have N848 := Fr.app N829 N846
   have k53 : own_J p e below T830 m 229 #[.val (.int av), .val (.int bv), .val (.int cv), .val (.int nv), .val (.int iv), .val (.int tv), .val (.int (2 : Int32)), .val (.ref r41), .val (.ref r71), .val (.ref r102), .val (.ref a123), .val (.ref a170), .val (.ref r654), .val (.ref a692), .val (.int (1 : Int32)), .val (.ref r71)] [(.int (1 : Int32))] B_ := fun t_ hh => k52 t_ (st840.trans hh)
   obtain ⟨fs, hr, hrun, hended, hEnd⟩ := X834.leaveW hS97 (by rw [e847]; exact hk769) (v := some (.int (1 : Int32))) (fun h => by rw [Bd.returns] at h; cases h)
   refine ⟨_, _, (own_from hB_ (k53 _ (retN X834 hx (t := .boolean) Bd.returns (by simp) (hb hby at_229) hr))), hrun, hended, _, _, rfl, ?_, hEnd.1, hEnd.2.1, hEnd.2.2.1, hEnd.2.2.2.mono (own_l rfl) (own_l rfl)⟩
   show QL h0 n0 _ T830.heap _
   rw [e847]
   exact ⟨rfl, N848⟩
 ·
  have k54 : own_J p e below T297 m 74 #[.val (.int av), .val (.int bv), .val (.int cv), .val (.int nv), .val (.int iv), .val (.int tv), .val (.int (3 : Int32)), .val (.ref r41), .val (.ref r71), .val (.ref r102), .val (.ref a123), .val (.ref a170), .unset, .unset, .unset, .unset] [] B_ := by have q := k20; rw [ec346] at q; exact q
  have k55 : own_J p e below T297 m 84 #[.val (.int av), .val (.int bv), .val (.int cv), .val (.int nv), .val (.int iv), .val (.int tv), .val (.int (3 : Int32)), .val (.ref r41), .val (.ref r71), .val (.ref r102), .val (.ref a123), .val (.ref a170), .unset, .unset, .unset, .unset] [(.ref r71), (.ref a123)] B_ := fun t_ hh => k54 t_ (by
   refine XS.iload X301.here hx rfl (hb hby at_74) rfl ?_
   refine XS.iconst X301.here hx rfl (hb hby at_76) ?_
   refine XS.icmpNo X301.here hx rfl (hb hby at_77) rfl (by decide) ?_
   refine XS.aload X301.here hx rfl (hb hby at_80) rfl rfl ?_
   refine XS.aload X301.here hx rfl (hb hby at_82) rfl rfl ?_
   exact hh)
  obtain ⟨cq860, kq861, qa862, qb863, qc864⟩ := isOf hZ98 e345 F332
  obtain ⟨_, _, ⟨T849, L850, k_851, n_852⟩, -, X853, ⟨Lc854, hQ855, l_856, y_857, z_858⟩, st859⟩ := X301.interfaceBack hx (xi := (⟨"java/util/List", "add", "(Ljava/lang/Object;)Z"⟩ : MethodName)) (y := (⟨"java/util/ArrayList", "add", "(Ljava/lang/Object;)Z"⟩ : MethodName)) hown99 (mvT hZ98 (wT hw 51 rfl)) (mvT hZ98 (wT hw 52 rfl)) (mvT hZ98 (wT hw 53 rfl)) (mvT hZ98 (wT hw 54 rfl)) (mvT hZ98 (wT hw 55 rfl)) (mvT hZ98 (wT hw 56 rfl)) (mvT hZ98 (wT hw 57 rfl)) (mvT hZ98 (wT hw 58 rfl)) (by decide) (backOf (W := 0) (rmAdS1 l Z a0 hw [] a123 r71 r235 kr236 r41 T297.heap n0 Z342 F332 F334 F335 F336 G125 F337 F242 F243 F245 (Ins.of_exa F330 (wT hw 85 rfl)) ) hZ98 (wT hw 59 rfl) (wT hw 29 rfl) (by decide) (by decide)) qa862 qb863 qc864 (g := (mkF m 84 #[.val (.int av), .val (.int bv), .val (.int cv), .val (.int nv), .val (.int iv), .val (.int tv), .val (.int (3 : Int32)), .val (.ref r41), .val (.ref r71), .val (.ref r102), .val (.ref a123), .val (.ref a170), .unset, .unset, .unset, .unset] [(.ref r71), (.ref a123)])) rfl (by rw [hml]; rfl) (Steps.refl _) (argsL := [(.ref r71)]) (rest := []) (lenOf own_h515 rfl) rfl (by show 2 * 0 + _ ≤ _; exact Nat.le_of_eq rfl) (hb hby at_84) (fun _ _ => ⟨rfl, e345, own_l rfl, own_l rfl⟩)
  dsimp only [Pt.U, Pt.locs, Pt.cells, Pt.slots] at X853 l_856 y_857 z_858 st859 hQ855
  subst l_856 y_857 z_858
  obtain ⟨rfl, N865, K872, F866, F867, F868, F869, F870, F871, -⟩ := hQ855
  have N873 := Fr.app N328 N865
  have F874 := F329.keep K872
  have F875 := F330.keep K872
  have F876 := F331.keep K872
  have F877 := F332.keep K872
  have F878 := F317.keep K872
  have F879 := F339.keep K872
  have F880 := F340.keep K872
  have ne882 : r235 ≠ r273 := Nat.ne_of_lt (Nat.lt_of_lt_of_le F241.lt F277)
  have ne883 : a123 ≠ r273 := Nat.ne_of_lt (Nat.lt_of_lt_of_le F237.lt F277)
  have F881 := F341.keep K872 (ninS (Ne.symm ne883) (ninS (Ne.symm ne882) nin0))
  have F884 := F318.keep K872 (ninS (Ne.symm ne209) (ninS ne338 nin0))
  have F885 := F319.keep K872 (ninS (Ne.symm ne209) (ninS ne338 nin0))
  have F886 := F320.keep K872 (ninS (Ne.symm ne209) (ninS ne338 nin0))
  have ne888 : r235 ≠ r315 := Nat.ne_of_lt (Nat.lt_of_lt_of_le F291.lt F324)
  have ne889 : a123 ≠ r315 := Nat.ne_of_lt (Nat.lt_of_lt_of_le F283.lt F324)
  have F887 := F321.keep K872 (ninS (Ne.symm ne889) (ninS (Ne.symm ne888) nin0))
  have F890 := F326.keep K872
  have Z891 : n0 ≤ T849.heap.size := Nat.le_trans Z342 K872.1
  have hk892 := Nat.le_trans hk343 K872.1
  have O893 := O344.keep K872 (allS G125 (allS F243 all0))
  have e894 : T849.heap = T849.heap := rfl
  have k56 : own_J p e below T849 m 89 #[.val (.int av), .val (.int bv), .val (.int cv), .val (.int nv), .val (.int iv), .val (.int tv), .val (.int (3 : Int32)), .val (.ref r41), .val (.ref r71), .val (.ref r102), .val (.ref a123), .val (.ref a170), .unset, .unset, .unset, .unset] [(.int (1 : Int32))] B_ := fun t_ hh => k55 t_ (st859.trans hh)
  have k57 : own_J p e below T849 m 102 #[.val (.int av), .val (.int bv), .val (.int cv), .val (.int nv), .val (.int iv), .val (.int tv), .val (.int (3 : Int32)), .val (.ref r41), .val (.ref r71), .val (.ref r102), .val (.ref a123), .val (.ref a170), .unset, .unset, .unset, .unset] [(.double (FP.i2d (((tv.toUInt32 >>> ((8 : Int32) &&& 31).toUInt32).toInt32) &&& (255 : Int32)))), (.ref a170)] B_ := fun t_ hh => k56 t_ (by
   refine XS.pop X853.here hx rfl (hb hby at_89) rfl rfl ?_
   refine XS.aload X853.here hx rfl (hb hby at_90) rfl rfl ?_
   refine XS.iload X853.here hx rfl (hb hby at_92) rfl ?_
   refine XS.bipush X853.here hx rfl (hb hby at_94) ?_
   refine XS.iushr X853.here hx rfl (hb hby at_96) rfl ?_
   refine XS.sipush X853.here hx rfl (hb hby at_97) ?_
   refine XS.iand X853.here hx rfl (hb hby at_100) rfl ?_
   refine XS.i2dS X853.here hx rfl (hb hby at_101) rfl rfl ?_
   exact hh)
  obtain ⟨_, _, ⟨T895, L896, k_897, n_898⟩, -, X899, ⟨Lc900, hQ901, l_902, y_903, z_904⟩, st905⟩ := Jvm.LawKit.callS X853 hx (y := (⟨"java/lang/Double", "valueOf", "(D)Ljava/lang/Double;"⟩ : MethodName)) hown99 (mvT hZ98 (wT hw 86 rfl)) (mvT hZ98 (wT hw 87 rfl)) (mvT hZ98 (wT hw 88 rfl)) (mvT hZ98 (wT hw 89 rfl)) (by decide) (backOf (W := 1) (rmDv l Z a0 hw [] (FP.i2d (((tv.toUInt32 >>> ((8 : Int32) &&& 31).toUInt32).toInt32) &&& (255 : Int32))) T849.heap n0 Z891  ) hZ98 (wT hw 89 rfl) (wT hw 88 rfl) (by decide) (by decide)) (g := (mkF m 102 #[.val (.int av), .val (.int bv), .val (.int cv), .val (.int nv), .val (.int iv), .val (.int tv), .val (.int (3 : Int32)), .val (.ref r41), .val (.ref r71), .val (.ref r102), .val (.ref a123), .val (.ref a170), .unset, .unset, .unset, .unset] [(.double (FP.i2d (((tv.toUInt32 >>> ((8 : Int32) &&& 31).toUInt32).toInt32) &&& (255 : Int32)))), (.ref a170)])) rfl (by rw [hml]; rfl) (argsL := [(.double (FP.i2d (((tv.toUInt32 >>> ((8 : Int32) &&& 31).toUInt32).toInt32) &&& (255 : Int32))))]) (rest := [(.ref a170)]) (lenOf own_h516 rfl) rfl (by show 2 * 0 + _ ≤ _; exact Nat.le_of_eq rfl) (hb hby at_102) (fun _ _ => ⟨rfl, e894, own_l rfl, own_l rfl⟩)
  dsimp only [Pt.U, Pt.locs, Pt.cells, Pt.slots] at X899 l_902 y_903 z_904 st905 hQ901
  subst l_902 y_903 z_904
  obtain ⟨r907, rfl, N906, K912, F908, F909, F910, F911, -⟩ := hQ901
  have N913 := Fr.app N873 N906
  have F914 := F874.keep K912
  have F915 := F875.keep K912
  have F916 := F876.keep K912
  have F917 := F866.keep K912
  have F918 := F878.keep K912
  have F919 := F879.keep K912
  have F920 := F880.keep K912
  have F921 := F881.keep K912 nin0
  have F922 := F884.keep K912 nin0
  have F923 := F885.keep K912 nin0
  have F924 := F886.keep K912 nin0
  have F925 := F887.keep K912 nin0
  have F926 := F890.keep K912
  have F927 := F867.keep K912 nin0
  have F928 := F868.keep K912 nin0
  have F929 := F869.keep K912 nin0
  have F930 := F870.keep K912 nin0
  have Z931 : n0 ≤ T895.heap.size := Nat.le_trans Z891 K912.1
  have hk932 := Nat.le_trans hk892 K912.1
  have O933 := O893.keep K912 all0
  have e934 : T895.heap = T895.heap := rfl
  have k58 : own_J p e below T895 m 105 #[.val (.int av), .val (.int bv), .val (.int cv), .val (.int nv), .val (.int iv), .val (.int tv), .val (.int (3 : Int32)), .val (.ref r41), .val (.ref r71), .val (.ref r102), .val (.ref a123), .val (.ref a170), .unset, .unset, .unset, .unset] [(.ref r907), (.ref a170)] B_ := fun t_ hh => k57 t_ (st905 t_ hh)
  obtain ⟨cq946, kq947, qa948, qb949, qc950⟩ := isOf hZ98 e934 F918
  obtain ⟨_, _, ⟨T935, L936, k_937, n_938⟩, -, X939, ⟨Lc940, hQ941, l_942, y_943, z_944⟩, st945⟩ := X899.interfaceBack hx (xi := (⟨"java/util/List", "add", "(Ljava/lang/Object;)Z"⟩ : MethodName)) (y := (⟨"java/util/ArrayList", "add", "(Ljava/lang/Object;)Z"⟩ : MethodName)) hown99 (mvT hZ98 (wT hw 51 rfl)) (mvT hZ98 (wT hw 52 rfl)) (mvT hZ98 (wT hw 53 rfl)) (mvT hZ98 (wT hw 54 rfl)) (mvT hZ98 (wT hw 55 rfl)) (mvT hZ98 (wT hw 56 rfl)) (mvT hZ98 (wT hw 57 rfl)) (mvT hZ98 (wT hw 58 rfl)) (by decide) (backOf (W := 0) (rmAdS1 l Z a0 hw [] a170 r907 r315 kr316 r273 T895.heap n0 Z931 F918 F922 F923 F924 G172 F925 F322 F323 F325 (Ins.of_exa F908 (wT hw 105 rfl)) ) hZ98 (wT hw 59 rfl) (wT hw 29 rfl) (by decide) (by decide)) qa948 qb949 qc950 (g := (mkF m 105 #[.val (.int av), .val (.int bv), .val (.int cv), .val (.int nv), .val (.int iv), .val (.int tv), .val (.int (3 : Int32)), .val (.ref r41), .val (.ref r71), .val (.ref r102), .val (.ref a123), .val (.ref a170), .unset, .unset, .unset, .unset] [(.ref r907), (.ref a170)])) rfl (by rw [hml]; rfl) (Steps.refl _) (argsL := [(.ref r907)]) (rest := []) (lenOf own_h515 rfl) rfl (by show 2 * 0 + _ ≤ _; exact Nat.le_of_eq rfl) (hb hby at_105) (fun _ _ => ⟨rfl, e934, own_l rfl, own_l rfl⟩)
  dsimp only [Pt.U, Pt.locs, Pt.cells, Pt.slots] at X939 l_942 y_943 z_944 st945 hQ941
  subst l_942 y_943 z_944
  obtain ⟨rfl, N951, K958, F952, F953, F954, F955, F956, F957, -⟩ := hQ941
  have N959 := Fr.app N913 N951
  have F960 := F914.keep K958
  have F961 := F915.keep K958
  have F962 := F916.keep K958
  have F963 := F917.keep K958
  have F964 := F918.keep K958
  have F965 := F919.keep K958
  have F966 := F920.keep K958
  have ne968 : r273 ≠ r315 := Nat.ne_of_lt (Nat.lt_of_lt_of_le F274.lt F324)
  have F967 := F921.keep K958 (ninS (Ne.symm ne308) (ninS ne968 nin0))
  have F969 := F926.keep K958
  have F970 := F927.keep K958 (ninS ne209 (ninS ne889 nin0))
  have F971 := F928.keep K958 (ninS ne209 (ninS ne889 nin0))
  have F972 := F929.keep K958 (ninS ne209 (ninS ne889 nin0))
  have F973 := F930.keep K958 (ninS (Ne.symm ne338) (ninS ne888 nin0))
  have F974 := F908.keep K958
  have ne976 : r315 ≠ r907 := Nat.ne_of_lt (Nat.lt_of_lt_of_le F887.lt F911)
  have ne977 : a170 ≠ r907 := Nat.ne_of_lt (Nat.lt_of_lt_of_le F878.lt F911)
  have F975 := F909.keep K958 (ninS (Ne.symm ne977) (ninS (Ne.symm ne976) nin0))
  have Z978 : n0 ≤ T935.heap.size := Nat.le_trans Z931 K958.1
  have hk979 := Nat.le_trans hk932 K958.1
  have O980 := O933.keep K958 (allS G172 (allS F323 all0))
  have e981 : T935.heap = T935.heap := rfl
  have k59 : own_J p e below T935 m 110 #[.val (.int av), .val (.int bv), .val (.int cv), .val (.int nv), .val (.int iv), .val (.int tv), .val (.int (3 : Int32)), .val (.ref r41), .val (.ref r71), .val (.ref r102), .val (.ref a123), .val (.ref a170), .unset, .unset, .unset, .unset] [(.int (1 : Int32))] B_ := fun t_ hh => k58 t_ (st945.trans hh)
  have k60 : own_J p e below T935 m 121 #[.val (.int av), .val (.int bv), .val (.int cv), .val (.int nv), .val (.int iv), .val (.int tv), .val (.int (3 : Int32)), .val (.ref r41), .val (.ref r71), .val (.ref r102), .val (.ref a123), .val (.ref a170), .unset, .unset, .unset, .unset] [(.ref r102), (.ref a123)] B_ := fun t_ hh => k59 t_ (by
   refine XS.pop X939.here hx rfl (hb hby at_110) rfl rfl ?_
   refine XS.iload X939.here hx rfl (hb hby at_111) rfl ?_
   refine XS.iconst X939.here hx rfl (hb hby at_113) ?_
   refine XS.icmpNo X939.here hx rfl (hb hby at_114) rfl (by decide) ?_
   refine XS.aload X939.here hx rfl (hb hby at_117) rfl rfl ?_
   refine XS.aload X939.here hx rfl (hb hby at_119) rfl rfl ?_
   exact hh)
  obtain ⟨cq993, kq994, qa995, qb996, qc997⟩ := isOf hZ98 e981 F963
  obtain ⟨_, _, ⟨T982, L983, k_984, n_985⟩, -, X986, ⟨Lc987, hQ988, l_989, y_990, z_991⟩, st992⟩ := X939.interfaceBack hx (xi := (⟨"java/util/List", "add", "(Ljava/lang/Object;)Z"⟩ : MethodName)) (y := (⟨"java/util/ArrayList", "add", "(Ljava/lang/Object;)Z"⟩ : MethodName)) hown99 (mvT hZ98 (wT hw 51 rfl)) (mvT hZ98 (wT hw 52 rfl)) (mvT hZ98 (wT hw 53 rfl)) (mvT hZ98 (wT hw 54 rfl)) (mvT hZ98 (wT hw 55 rfl)) (mvT hZ98 (wT hw 56 rfl)) (mvT hZ98 (wT hw 57 rfl)) (mvT hZ98 (wT hw 58 rfl)) (by decide) (backOf (W := 0) (rmAdS2 l Z a0 hw [] a123 r102 r235 kr236 r41 r71 T935.heap n0 Z978 F963 F970 F971 F972 G125 F973 F871 F243 F245 (Ins.of_exa F962 (wT hw 85 rfl)) ) hZ98 (wT hw 59 rfl) (wT hw 29 rfl) (by decide) (by decide)) qa995 qb996 qc997 (g := (mkF m 121 #[.val (.int av), .val (.int bv), .val (.int cv), .val (.int nv), .val (.int iv), .val (.int tv), .val (.int (3 : Int32)), .val (.ref r41), .val (.ref r71), .val (.ref r102), .val (.ref a123), .val (.ref a170), .unset, .unset, .unset, .unset] [(.ref r102), (.ref a123)])) rfl (by rw [hml]; rfl) (Steps.refl _) (argsL := [(.ref r102)]) (rest := []) (lenOf own_h515 rfl) rfl (by show 2 * 0 + _ ≤ _; exact Nat.le_of_eq rfl) (hb hby at_121) (fun _ _ => ⟨rfl, e981, own_l rfl, own_l rfl⟩)
  dsimp only [Pt.U, Pt.locs, Pt.cells, Pt.slots] at X986 l_989 y_990 z_991 st992 hQ988
  subst l_989 y_990 z_991
  obtain ⟨rfl, N998, K1005, F999, F1000, F1001, F1002, F1003, F1004, -⟩ := hQ988
  have N1006 := Fr.app N959 N998
  have F1007 := F960.keep K1005
  have F1008 := F961.keep K1005
  have F1009 := F962.keep K1005
  have F1010 := F963.keep K1005
  have F1011 := F952.keep K1005
  have F1012 := F965.keep K1005
  have F1013 := F966.keep K1005
  have F1014 := F967.keep K1005 (ninS (Ne.symm ne883) (ninS (Ne.symm ne882) nin0))
  have F1015 := F969.keep K1005
  have F1016 := F974.keep K1005
  have ne1018 : r235 ≠ r907 := Nat.ne_of_lt (Nat.lt_of_lt_of_le F879.lt F911)
  have ne1019 : a123 ≠ r907 := Nat.ne_of_lt (Nat.lt_of_lt_of_le F866.lt F911)
  have F1017 := F975.keep K1005 (ninS (Ne.symm ne1019) (ninS (Ne.symm ne1018) nin0))
  have F1020 := F953.keep K1005 (ninS (Ne.symm ne209) (ninS ne338 nin0))
  have F1021 := F954.keep K1005 (ninS (Ne.symm ne209) (ninS ne338 nin0))
  have F1022 := F955.keep K1005 (ninS (Ne.symm ne209) (ninS ne338 nin0))
  have F1023 := F956.keep K1005 (ninS (Ne.symm ne889) (ninS (Ne.symm ne888) nin0))
  have Z1024 : n0 ≤ T982.heap.size := Nat.le_trans Z978 K1005.1
  have hk1025 := Nat.le_trans hk979 K1005.1
  have O1026 := O980.keep K1005 (allS G125 (allS F243 all0))
  have e1027 : T982.heap = T982.heap := rfl
  have k61 : own_J p e below T982 m 126 #[.val (.int av), .val (.int bv), .val (.int cv), .val (.int nv), .val (.int iv), .val (.int tv), .val (.int (3 : Int32)), .val (.ref r41), .val (.ref r71), .val (.ref r102), .val (.ref a123), .val (.ref a170), .unset, .unset, .unset, .unset] [(.int (1 : Int32))] B_ := fun t_ hh => k60 t_ (st992.trans hh)
  have k62 : own_J p e below T982 m 139 #[.val (.int av), .val (.int bv), .val (.int cv), .val (.int nv), .val (.int iv), .val (.int tv), .val (.int (3 : Int32)), .val (.ref r41), .val (.ref r71), .val (.ref r102), .val (.ref a123), .val (.ref a170), .unset, .unset, .unset, .unset] [(.double (FP.i2d (((tv.toUInt32 >>> ((16 : Int32) &&& 31).toUInt32).toInt32) &&& (255 : Int32)))), (.ref a170)] B_ := fun t_ hh => k61 t_ (by
   refine XS.pop X986.here hx rfl (hb hby at_126) rfl rfl ?_
   refine XS.aload X986.here hx rfl (hb hby at_127) rfl rfl ?_
   refine XS.iload X986.here hx rfl (hb hby at_129) rfl ?_
   refine XS.bipush X986.here hx rfl (hb hby at_131) ?_
   refine XS.iushr X986.here hx rfl (hb hby at_133) rfl ?_
   refine XS.sipush X986.here hx rfl (hb hby at_134) ?_
   refine XS.iand X986.here hx rfl (hb hby at_137) rfl ?_
   refine XS.i2dS X986.here hx rfl (hb hby at_138) rfl rfl ?_
   exact hh)
  obtain ⟨_, _, ⟨T1028, L1029, k_1030, n_1031⟩, -, X1032, ⟨Lc1033, hQ1034, l_1035, y_1036, z_1037⟩, st1038⟩ := Jvm.LawKit.callS X986 hx (y := (⟨"java/lang/Double", "valueOf", "(D)Ljava/lang/Double;"⟩ : MethodName)) hown99 (mvT hZ98 (wT hw 86 rfl)) (mvT hZ98 (wT hw 87 rfl)) (mvT hZ98 (wT hw 88 rfl)) (mvT hZ98 (wT hw 89 rfl)) (by decide) (backOf (W := 1) (rmDv l Z a0 hw [] (FP.i2d (((tv.toUInt32 >>> ((16 : Int32) &&& 31).toUInt32).toInt32) &&& (255 : Int32))) T982.heap n0 Z1024  ) hZ98 (wT hw 89 rfl) (wT hw 88 rfl) (by decide) (by decide)) (g := (mkF m 139 #[.val (.int av), .val (.int bv), .val (.int cv), .val (.int nv), .val (.int iv), .val (.int tv), .val (.int (3 : Int32)), .val (.ref r41), .val (.ref r71), .val (.ref r102), .val (.ref a123), .val (.ref a170), .unset, .unset, .unset, .unset] [(.double (FP.i2d (((tv.toUInt32 >>> ((16 : Int32) &&& 31).toUInt32).toInt32) &&& (255 : Int32)))), (.ref a170)])) rfl (by rw [hml]; rfl) (argsL := [(.double (FP.i2d (((tv.toUInt32 >>> ((16 : Int32) &&& 31).toUInt32).toInt32) &&& (255 : Int32))))]) (rest := [(.ref a170)]) (lenOf own_h516 rfl) rfl (by show 2 * 0 + _ ≤ _; exact Nat.le_of_eq rfl) (hb hby at_139) (fun _ _ => ⟨rfl, e1027, own_l rfl, own_l rfl⟩)
  dsimp only [Pt.U, Pt.locs, Pt.cells, Pt.slots] at X1032 l_1035 y_1036 z_1037 st1038 hQ1034
  subst l_1035 y_1036 z_1037
  obtain ⟨r1040, rfl, N1039, K1045, F1041, F1042, F1043, F1044, -⟩ := hQ1034
  have N1046 := Fr.app N1006 N1039
  have F1047 := F1007.keep K1045
  have F1048 := F1008.keep K1045
  have F1049 := F1009.keep K1045
  have F1050 := F999.keep K1045
  have F1051 := F1011.keep K1045
  have F1052 := F1012.keep K1045
  have F1053 := F1013.keep K1045
  have F1054 := F1014.keep K1045 nin0
  have F1055 := F1015.keep K1045
  have F1056 := F1016.keep K1045
  have F1057 := F1017.keep K1045 nin0
  have F1058 := F1020.keep K1045 nin0
  have F1059 := F1021.keep K1045 nin0
  have F1060 := F1022.keep K1045 nin0
  have F1061 := F1023.keep K1045 nin0
  have F1062 := F1000.keep K1045 nin0
  have F1063 := F1001.keep K1045 nin0
  have F1064 := F1002.keep K1045 nin0
  have F1065 := F1003.keep K1045 nin0
  have Z1066 : n0 ≤ T1028.heap.size := Nat.le_trans Z1024 K1045.1
  have hk1067 := Nat.le_trans hk1025 K1045.1
  have O1068 := O1026.keep K1045 all0
  have e1069 : T1028.heap = T1028.heap := rfl
  have k63 : own_J p e below T1028 m 142 #[.val (.int av), .val (.int bv), .val (.int cv), .val (.int nv), .val (.int iv), .val (.int tv), .val (.int (3 : Int32)), .val (.ref r41), .val (.ref r71), .val (.ref r102), .val (.ref a123), .val (.ref a170), .unset, .unset, .unset, .unset] [(.ref r1040), (.ref a170)] B_ := fun t_ hh => k62 t_ (st1038 t_ hh)
  obtain ⟨cq1081, kq1082, qa1083, qb1084, qc1085⟩ := isOf hZ98 e1069 F1051
  obtain ⟨_, _, ⟨T1070, L1071, k_1072, n_1073⟩, -, X1074, ⟨Lc1075, hQ1076, l_1077, y_1078, z_1079⟩, st1080⟩ := X1032.interfaceBack hx (xi := (⟨"java/util/List", "add", "(Ljava/lang/Object;)Z"⟩ : MethodName)) (y := (⟨"java/util/ArrayList", "add", "(Ljava/lang/Object;)Z"⟩ : MethodName)) hown99 (mvT hZ98 (wT hw 51 rfl)) (mvT hZ98 (wT hw 52 rfl)) (mvT hZ98 (wT hw 53 rfl)) (mvT hZ98 (wT hw 54 rfl)) (mvT hZ98 (wT hw 55 rfl)) (mvT hZ98 (wT hw 56 rfl)) (mvT hZ98 (wT hw 57 rfl)) (mvT hZ98 (wT hw 58 rfl)) (by decide) (backOf (W := 0) (rmAdS2 l Z a0 hw [] a170 r1040 r315 kr316 r273 r907 T1028.heap n0 Z1066 F1051 F1058 F1059 F1060 G172 F1061 F957 F323 F325 (Ins.of_exa F1041 (wT hw 105 rfl)) ) hZ98 (wT hw 59 rfl) (wT hw 29 rfl) (by decide) (by decide)) qa1083 qb1084 qc1085 (g := (mkF m 142 #[.val (.int av), .val (.int bv), .val (.int cv), .val (.int nv), .val (.int iv), .val (.int tv), .val (.int (3 : Int32)), .val (.ref r41), .val (.ref r71), .val (.ref r102), .val (.ref a123), .val (.ref a170), .unset, .unset, .unset, .unset] [(.ref r1040), (.ref a170)])) rfl (by rw [hml]; rfl) (Steps.refl _) (argsL := [(.ref r1040)]) (rest := []) (lenOf own_h515 rfl) rfl (by show 2 * 0 + _ ≤ _; exact Nat.le_of_eq rfl) (hb hby at_142) (fun _ _ => ⟨rfl, e1069, own_l rfl, own_l rfl⟩)
  dsimp only [Pt.U, Pt.locs, Pt.cells, Pt.slots] at X1074 l_1077 y_1078 z_1079 st1080 hQ1076
  subst l_1077 y_1078 z_1079
  obtain ⟨rfl, N1086, K1093, F1087, F1088, F1089, F1090, F1091, F1092, -⟩ := hQ1076
  have N1094 := Fr.app N1046 N1086
  have F1095 := F1047.keep K1093
  have F1096 := F1048.keep K1093
  have F1097 := F1049.keep K1093
  have F1098 := F1050.keep K1093
  have F1099 := F1051.keep K1093
  have F1100 := F1052.keep K1093
  have F1101 := F1053.keep K1093
  have F1102 := F1054.keep K1093 (ninS (Ne.symm ne308) (ninS ne968 nin0))
  have F1103 := F1055.keep K1093
  have F1104 := F1056.keep K1093
  have F1105 := F1057.keep K1093 (ninS (Ne.symm ne977) (ninS (Ne.symm ne976) nin0))
  have F1106 := F1062.keep K1093 (ninS ne209 (ninS ne889 nin0))
  have F1107 := F1063.keep K1093 (ninS ne209 (ninS ne889 nin0))
  have F1108 := F1064.keep K1093 (ninS ne209 (ninS ne889 nin0))
  have F1109 := F1065.keep K1093 (ninS (Ne.symm ne338) (ninS ne888 nin0))
  have F1110 := F1041.keep K1093
  have ne1112 : r315 ≠ r1040 := Nat.ne_of_lt (Nat.lt_of_lt_of_le F1015.lt F1044)
  have ne1113 : a170 ≠ r1040 := Nat.ne_of_lt (Nat.lt_of_lt_of_le F1011.lt F1044)
  have F1111 := F1042.keep K1093 (ninS (Ne.symm ne1113) (ninS (Ne.symm ne1112) nin0))
  have Z1114 : n0 ≤ T1070.heap.size := Nat.le_trans Z1066 K1093.1
  have hk1115 := Nat.le_trans hk1067 K1093.1
  have O1116 := O1068.keep K1093 (allS G172 (allS F323 all0))
  have e1117 : T1070.heap = T1070.heap := rfl
  have k64 : own_J p e below T1070 m 147 #[.val (.int av), .val (.int bv), .val (.int cv), .val (.int nv), .val (.int iv), .val (.int tv), .val (.int (3 : Int32)), .val (.ref r41), .val (.ref r71), .val (.ref r102), .val (.ref a123), .val (.ref a170), .unset, .unset, .unset, .unset] [(.int (1 : Int32))] B_ := fun t_ hh => k63 t_ (st1080.trans hh)
  have k65 : own_J p e below T1070 m 158 #[.val (.int av), .val (.int bv), .val (.int cv), .val (.int nv), .val (.int iv), .val (.int tv), .val (.int (3 : Int32)), .val (.ref r41), .val (.ref r71), .val (.ref r102), .val (.ref a123), .val (.ref a170), .unset, .unset, .unset, .unset] [(.int ((((tv.toUInt32 >>> ((24 : Int32) &&& 31).toUInt32).toInt32) &&& (255 : Int32)).toUInt32.toUInt16.toUInt32.toInt32))] B_ := fun t_ hh => k64 t_ (by
   refine XS.pop X1074.here hx rfl (hb hby at_147) rfl rfl ?_
   refine XS.iload X1074.here hx rfl (hb hby at_148) rfl ?_
   refine XS.bipush X1074.here hx rfl (hb hby at_150) ?_
   refine XS.iushr X1074.here hx rfl (hb hby at_152) rfl ?_
   refine XS.sipush X1074.here hx rfl (hb hby at_153) ?_
   refine XS.iand X1074.here hx rfl (hb hby at_156) rfl ?_
   refine XS.i2c X1074.here hx rfl (hb hby at_157) rfl ?_
   exact hh)
  obtain ⟨_, _, ⟨T1118, L1119, k_1120, n_1121⟩, -, X1122, ⟨Lc1123, hQ1124, l_1125, y_1126, z_1127⟩, st1128⟩ := Jvm.LawKit.callS X1074 hx (y := (⟨"java/lang/String", "valueOf", "(C)Ljava/lang/String;"⟩ : MethodName)) hown99 (mvT hZ98 (wT hw 106 rfl)) (mvT hZ98 (wT hw 107 rfl)) (mvT hZ98 (wT hw 7 rfl)) (mvT hZ98 (wT hw 108 rfl)) (by decide) (backOf (W := 0) (rmVo l Z a0 hw [] ((((tv.toUInt32 >>> ((24 : Int32) &&& 31).toUInt32).toInt32) &&& (255 : Int32)).toUInt32.toUInt16.toUInt32.toInt32) T1070.heap n0 Z1114 O1116 (own_b8_mask _) ci sC hc) hZ98 (wT hw 108 rfl) (wT hw 7 rfl) (by decide) (by decide)) (g := (mkF m 158 #[.val (.int av), .val (.int bv), .val (.int cv), .val (.int nv), .val (.int iv), .val (.int tv), .val (.int (3 : Int32)), .val (.ref r41), .val (.ref r71), .val (.ref r102), .val (.ref a123), .val (.ref a170), .unset, .unset, .unset, .unset] [(.int ((((tv.toUInt32 >>> ((24 : Int32) &&& 31).toUInt32).toInt32) &&& (255 : Int32)).toUInt32.toUInt16.toUInt32.toInt32))])) rfl (by rw [hml]; rfl) (argsL := [(.int ((((tv.toUInt32 >>> ((24 : Int32) &&& 31).toUInt32).toInt32) &&& (255 : Int32)).toUInt32.toUInt16.toUInt32.toInt32))]) (rest := []) (lenOf own_h517 rfl) rfl (by show 2 * 0 + _ ≤ _; exact Nat.le_of_eq rfl) (hb hby at_158) (fun _ _ => ⟨rfl, e1117, own_l rfl, own_l rfl⟩)
  dsimp only [Pt.U, Pt.locs, Pt.cells, Pt.slots] at X1122 l_1125 y_1126 z_1127 st1128 hQ1124
  subst l_1125 y_1126 z_1127
  obtain ⟨r1130, rfl, N1129, K1134, F1131, F1132, F1133, -⟩ := hQ1124
  have N1135 := Fr.app N1094 N1129
  have F1136 := F1095.keep K1134
  have F1137 := F1096.keep K1134
  have F1138 := F1097.keep K1134
  have F1139 := F1098.keep K1134
  have F1140 := F1087.keep K1134
  have F1141 := F1100.keep K1134
  have F1142 := F1101.keep K1134
  have F1143 := F1102.keep K1134 nin0
  have F1144 := F1103.keep K1134
  have F1145 := F1104.keep K1134
  have F1146 := F1105.keep K1134 nin0
  have F1147 := F1106.keep K1134 nin0
  have F1148 := F1107.keep K1134 nin0
  have F1149 := F1108.keep K1134 nin0
  have F1150 := F1109.keep K1134 nin0
  have F1151 := F1110.keep K1134
  have F1152 := F1111.keep K1134 nin0
  have F1153 := F1088.keep K1134 nin0
  have F1154 := F1089.keep K1134 nin0
  have F1155 := F1090.keep K1134 nin0
  have F1156 := F1091.keep K1134 nin0
  have Z1157 : n0 ≤ T1118.heap.size := Nat.le_trans Z1114 K1134.1
  have hk1158 := Nat.le_trans hk1115 K1134.1
  have O1159 := O1116.keep K1134 all0
  have e1160 : T1118.heap = T1118.heap := rfl
  have k66 : own_J p e below T1118 m 161 #[.val (.int av), .val (.int bv), .val (.int cv), .val (.int nv), .val (.int iv), .val (.int tv), .val (.int (3 : Int32)), .val (.ref r41), .val (.ref r71), .val (.ref r102), .val (.ref a123), .val (.ref a170), .unset, .unset, .unset, .unset] [(.ref r1130)] B_ := fun t_ hh => k65 t_ (st1128 t_ hh)
  have k67 : own_J p e below T1118 m 163 #[.val (.int av), .val (.int bv), .val (.int cv), .val (.int nv), .val (.int iv), .val (.int tv), .val (.int (3 : Int32)), .val (.ref r41), .val (.ref r71), .val (.ref r102), .val (.ref a123), .val (.ref a170), .val (.ref r1130), .unset, .unset, .unset] [] B_ := fun t_ hh => k66 t_ (by
   refine XS.astore X1122.here hx rfl (hb hby at_161) rfl rfl (l' := #[.val (.int av), .val (.int bv), .val (.int cv), .val (.int nv), .val (.int iv), .val (.int tv), .val (.int (3 : Int32)), .val (.ref r41), .val (.ref r71), .val (.ref r102), .val (.ref a123), .val (.ref a170), .val (.ref r1130), .unset, .unset, .unset]) rfl ?_
   exact hh)
  obtain ⟨T1161, h1162, X1163, e1164, E1165, A1166, D1167, U1169, st1168⟩ := newO X1122 hx hZ98 hown99 (wT hw 121 rfl) (wT hw 122 rfl) (wT hw 123 rfl) e1160 (g := (mkF m 163 #[.val (.int av), .val (.int bv), .val (.int cv), .val (.int nv), .val (.int iv), .val (.int tv), .val (.int (3 : Int32)), .val (.ref r41), .val (.ref r71), .val (.ref r102), .val (.ref a123), .val (.ref a170), .val (.ref r1130), .unset, .unset, .unset] [])) rfl (hb hby at_163) (by decide) (by decide)
  obtain ⟨a1170, g1171⟩ : ∃ z, z = T1118.heap.size := ⟨_, rfl⟩
  rw [← g1171] at A1166 D1167 U1169 st1168
  have G1172 : n0 ≤ a1170 := Nat.le_trans Z1157 (Nat.le_of_eq g1171.symm)
  have hk1173 := Nat.le_trans hk1158 E1165.1
  have F1174 := Exa.ext (h' := h1162) E1165 F1136
  have F1175 := Exa.ext (h' := h1162) E1165 F1137
  have F1176 := Exa.ext (h' := h1162) E1165 F1138
  have F1177 := Exa.ext (h' := h1162) E1165 F1139
  have F1178 := Exa.ext (h' := h1162) E1165 F1140
  have F1179 := Exa.ext (h' := h1162) E1165 F1141
  have F1180 := Exa.ext (h' := h1162) E1165 F1142
  have F1181 := Fld.ext (h' := h1162) E1165 F1143
  have F1182 := Exa.ext (h' := h1162) E1165 F1144
  have F1183 := Exa.ext (h' := h1162) E1165 F1145
  have F1184 := Fld.ext (h' := h1162) E1165 F1146
  have F1185 := Fld.ext (h' := h1162) E1165 F1147
  have F1186 := Fld.ext (h' := h1162) E1165 F1148
  have F1187 := Fld.ext (h' := h1162) E1165 F1149
  have F1188 := F1150.ext E1165
  have F1189 := Exa.ext (h' := h1162) E1165 F1151
  have F1190 := Fld.ext (h' := h1162) E1165 F1152
  have F1191 := Fld.ext (h' := h1162) E1165 F1153
  have F1192 := Fld.ext (h' := h1162) E1165 F1154
  have F1193 := Fld.ext (h' := h1162) E1165 F1155
  have F1194 := F1156.ext E1165
  have F1195 := Exa.ext (h' := h1162) E1165 F1131
  have Z1196 : n0 ≤ h1162.size := Nat.le_trans Z1157 E1165.1
  have O1197 := O1159.ext E1165
  have F1198 : Fld Z h1162 a1170 "com/example/level_slate/levelslate/TopicCandidates" "topic" "Ljava/lang/String;" .null := D1167 (Or.inr (wT hw 165 rfl)) (ty := .object "java/lang/String") (by decide)
  have F1199 : Fld Z h1162 a1170 "com/example/level_slate/levelslate/TopicCandidates" "candidates" "Ljava/util/List;" .null := D1167 (Or.inr (wT hw 251 rfl)) (ty := .object "java/util/List") (by decide)
  have F1200 : Fld Z h1162 a1170 "com/example/level_slate/levelslate/TopicCandidates" "runScores" "[D" .null := D1167 (Or.inr (wT hw 253 rfl)) (ty := .array .double) (by decide)
  have k68 : own_J p e below T1161 m 166 #[.val (.int av), .val (.int bv), .val (.int cv), .val (.int nv), .val (.int iv), .val (.int tv), .val (.int (3 : Int32)), .val (.ref r41), .val (.ref r71), .val (.ref r102), .val (.ref a123), .val (.ref a170), .val (.ref r1130), .unset, .unset, .unset] [(.ref a1170)] B_ := fun t_ hh => k67 t_ (st1168 t_ hh)
  have k69 : own_J p e below T1161 m 173 #[.val (.int av), .val (.int bv), .val (.int cv), .val (.int nv), .val (.int iv), .val (.int tv), .val (.int (3 : Int32)), .val (.ref r41), .val (.ref r71), .val (.ref r102), .val (.ref a123), .val (.ref a170), .val (.ref r1130), .unset, .unset, .unset] [(.ref a170), (.ref a123), (.ref r1130), (.ref a1170), (.ref a1170)] B_ := fun t_ hh => k68 t_ (by
   refine XS.dup X1163.here hx rfl (hb hby at_166) rfl rfl ?_
   refine XS.aload X1163.here hx rfl (hb hby at_167) rfl rfl ?_
   refine XS.aload X1163.here hx rfl (hb hby at_169) rfl rfl ?_
   refine XS.aload X1163.here hx rfl (hb hby at_171) rfl rfl ?_
   exact hh)
  have ne1212 : a123 ≠ a1170 := by rw [g1171]; exact Nat.ne_of_lt F1139.lt
  have ne1213 : r235 ≠ a1170 := by rw [g1171]; exact Nat.ne_of_lt F1141.lt
  have ne1214 : a170 ≠ a1170 := by rw [g1171]; exact Nat.ne_of_lt F1140.lt
  have ne1215 : r315 ≠ a1170 := by rw [g1171]; exact Nat.ne_of_lt F1144.lt
  have ne1216 : r273 ≠ a1170 := by rw [g1171]; exact Nat.ne_of_lt F1142.lt
  have ne1217 : r907 ≠ a1170 := by rw [g1171]; exact Nat.ne_of_lt F1145.lt
  have ne1218 : r1040 ≠ a1170 := by rw [g1171]; exact Nat.ne_of_lt F1151.lt
  obtain ⟨_, _, ⟨T1201, L1202, k_1203, n_1204⟩, -, X1205, ⟨Lc1206, hQ1207, l_1208, y_1209, z_1210⟩, st1211⟩ := X1163.specialBack hx (y := (⟨"com/example/level_slate/levelslate/TopicCandidates", "<init>", "(Ljava/lang/String;Ljava/util/List;Ljava/util/List;)V"⟩ : MethodName)) rfl hown99 (mvT hZ98 (wT hw 124 rfl)) (mvT hZ98 (wT hw 125 rfl)) (mvT hZ98 (wT hw 126 rfl)) (by decide) (backOf (W := 1) (rmTC3 l Z a0 hw [] a1170 r1130 a123 r235 kr236 a170 r315 kr316 r41 r71 r102 r273 r907 r1040 (FP.i2d (tv &&& (255 : Int32))) (FP.i2d (((tv.toUInt32 >>> ((8 : Int32) &&& 31).toUInt32).toInt32) &&& (255 : Int32))) (FP.i2d (((tv.toUInt32 >>> ((16 : Int32) &&& 31).toUInt32).toInt32) &&& (255 : Int32))) em h1162 n0 Z1196 A1166 F1198 F1199 F1200 G1172 O1197 F1177 F1186 F1187 F1179 F1188 F1178 F1192 F1193 F1194 F1174 F1175 F1176 F1180 F1181 F1183 F1184 F1189 F1190 ne1212 ne1213 ne1214 ne1215 ne1216 ne1217 ne1218 sE mr hM) hZ98 (wT hw 126 rfl) (wT hw 123 rfl) (by decide) (by decide)) (g := (mkF m 173 #[.val (.int av), .val (.int bv), .val (.int cv), .val (.int nv), .val (.int iv), .val (.int tv), .val (.int (3 : Int32)), .val (.ref r41), .val (.ref r71), .val (.ref r102), .val (.ref a123), .val (.ref a170), .val (.ref r1130), .unset, .unset, .unset] [(.ref a170), (.ref a123), (.ref r1130), (.ref a1170), (.ref a1170)])) rfl (by rw [hml]; rfl) (Steps.refl _) (a := a1170) (argsL := [(.ref r1130), (.ref a123), (.ref a170)]) (rest := [(.ref a1170)]) (lenOf own_h518 rfl) rfl (by show 2 * 0 + _ ≤ _; exact Nat.le_of_eq rfl) (hb hby at_173) (fun _ _ => ⟨rfl, e1164, own_l rfl, own_l rfl⟩)
  dsimp only [Pt.U, Pt.locs, Pt.cells, Pt.slots] at X1205 l_1208 y_1209 z_1210 st1211 hQ1207
  subst l_1208 y_1209 z_1210
  obtain ⟨r1220, q1221, kq1222, rfl, N1219, K1228, F1223, F1224, F1225, F1226, F1227, -⟩ := hQ1207
  have N1229 := Fr.app N1135 N1219
  have F1230 := F1174.keep K1228
  have F1231 := F1175.keep K1228
  have F1232 := F1176.keep K1228
  have F1233 := F1177.keep K1228
  have F1234 := F1178.keep K1228
  have F1235 := F1179.keep K1228
  have F1236 := F1180.keep K1228
  have F1237 := F1181.keep K1228 (ninS ne1216 nin0)
  have F1238 := F1182.keep K1228
  have F1239 := F1183.keep K1228
  have F1240 := F1184.keep K1228 (ninS ne1217 nin0)
  have F1241 := F1185.keep K1228 (ninS ne1212 nin0)
  have F1242 := F1186.keep K1228 (ninS ne1212 nin0)
  have F1243 := F1187.keep K1228 (ninS ne1212 nin0)
  have F1244 := F1188.keep K1228 (ninS ne1213 nin0)
  have F1245 := F1189.keep K1228
  have F1246 := F1190.keep K1228 (ninS ne1218 nin0)
  have F1247 := F1191.keep K1228 (ninS ne1214 nin0)
  have F1248 := F1192.keep K1228 (ninS ne1214 nin0)
  have F1249 := F1193.keep K1228 (ninS ne1214 nin0)
  have F1250 := F1194.keep K1228 (ninS ne1215 nin0)
  have F1251 := F1195.keep K1228
  have F1252 := A1166.keep K1228
  have Z1253 : n0 ≤ T1201.heap.size := Nat.le_trans Z1196 K1228.1
  have hk1254 := Nat.le_trans hk1173 K1228.1
  have O1255 := O1197.keep K1228 (allS G1172 all0)
  have e1256 : T1201.heap = T1201.heap := rfl
  have k70 : own_J p e below T1201 m 176 #[.val (.int av), .val (.int bv), .val (.int cv), .val (.int nv), .val (.int iv), .val (.int tv), .val (.int (3 : Int32)), .val (.ref r41), .val (.ref r71), .val (.ref r102), .val (.ref a123), .val (.ref a170), .val (.ref r1130), .unset, .unset, .unset] [(.ref a1170)] B_ := fun t_ hh => k69 t_ (st1211.trans hh)
  have k71 : own_J p e below T1201 m 188 #[.val (.int av), .val (.int bv), .val (.int cv), .val (.int nv), .val (.int iv), .val (.int tv), .val (.int (3 : Int32)), .val (.ref r41), .val (.ref r71), .val (.ref r102), .val (.ref a123), .val (.ref a170), .val (.ref r1130), .val (.ref a1170), .val (.int ((iv &&& (2147483647 : Int32)) % (3 : Int32))), .unset] [] B_ := fun t_ hh => k70 t_ (by
   refine XS.astore X1205.here hx rfl (hb hby at_176) rfl rfl (l' := #[.val (.int av), .val (.int bv), .val (.int cv), .val (.int nv), .val (.int iv), .val (.int tv), .val (.int (3 : Int32)), .val (.ref r41), .val (.ref r71), .val (.ref r102), .val (.ref a123), .val (.ref a170), .val (.ref r1130), .val (.ref a1170), .unset, .unset]) rfl ?_
   refine XS.iload X1205.here hx rfl (hb hby at_178) rfl ?_
   refine X1205.ldcInt hx hown99 (mvT hZ98 (wT hw 0 rfl)) (g := (mkF m 180 #[.val (.int av), .val (.int bv), .val (.int cv), .val (.int nv), .val (.int iv), .val (.int tv), .val (.int (3 : Int32)), .val (.ref r41), .val (.ref r71), .val (.ref r102), .val (.ref a123), .val (.ref a170), .val (.ref r1130), .val (.ref a1170), .unset, .unset] [(.int iv)])) rfl (hb hby at_180) _ ?_
   refine XS.iand X1205.here hx rfl (hb hby at_182) rfl ?_
   refine XS.iload X1205.here hx rfl (hb hby at_183) rfl ?_
   refine iremM X1205 hx (g := (mkF m 185 #[.val (.int av), .val (.int bv), .val (.int cv), .val (.int nv), .val (.int iv), .val (.int tv), .val (.int (3 : Int32)), .val (.ref r41), .val (.ref r71), .val (.ref r102), .val (.ref a123), .val (.ref a170), .val (.ref r1130), .val (.ref a1170), .unset, .unset] [(.int (3 : Int32)), (.int (iv &&& (2147483647 : Int32)))])) rfl (hb hby at_185) rfl (by decide) ?_
   refine XS.istore X1205.here hx rfl (hb hby at_186) rfl (l' := #[.val (.int av), .val (.int bv), .val (.int cv), .val (.int nv), .val (.int iv), .val (.int tv), .val (.int (3 : Int32)), .val (.ref r41), .val (.ref r71), .val (.ref r102), .val (.ref a123), .val (.ref a170), .val (.ref r1130), .val (.ref a1170), .val (.int ((iv &&& (2147483647 : Int32)) % (3 : Int32))), .unset]) rfl ?_
   exact hh)
  rcases (own_idx3 iv) with ec1257 | ec1257 | ec1257
  ·
   have k72 : own_J p e below T1201 m 188 #[.val (.int av), .val (.int bv), .val (.int cv), .val (.int nv), .val (.int iv), .val (.int tv), .val (.int (3 : Int32)), .val (.ref r41), .val (.ref r71), .val (.ref r102), .val (.ref a123), .val (.ref a170), .val (.ref r1130), .val (.ref a1170), .val (.int (0 : Int32)), .unset] [] B_ := by have q := k71; rw [ec1257] at q; exact q
   have k73 : own_J p e below T1201 m 223 #[.val (.int av), .val (.int bv), .val (.int cv), .val (.int nv), .val (.int iv), .val (.int tv), .val (.int (3 : Int32)), .val (.ref r41), .val (.ref r71), .val (.ref r102), .val (.ref a123), .val (.ref a170), .val (.ref r1130), .val (.ref a1170), .val (.int (0 : Int32)), .val (.ref r41)] [(.int (0 : Int32)), (.ref a1170), (.ref r41)] B_ := fun t_ hh => k72 t_ (by
    refine XS.iload X1205.here hx rfl (hb hby at_188) rfl ?_
    refine XS.ifNo X1205.here hx rfl (hb hby at_190) rfl (by decide) ?_
    refine XS.aload X1205.here hx rfl (hb hby at_193) rfl rfl ?_
    refine XS.astore X1205.here hx rfl (hb hby at_195) rfl rfl (l' := #[.val (.int av), .val (.int bv), .val (.int cv), .val (.int nv), .val (.int iv), .val (.int tv), .val (.int (3 : Int32)), .val (.ref r41), .val (.ref r71), .val (.ref r102), .val (.ref a123), .val (.ref a170), .val (.ref r1130), .val (.ref a1170), .val (.int (0 : Int32)), .val (.ref r41)]) rfl ?_
    refine XS.goto X1205.here hx rfl (pc0 := 197) (pc' := 217) rfl (hb hby at_197) (by decide) (by decide) ?_
    refine XS.aload X1205.here hx rfl (hb hby at_217) rfl rfl ?_
    refine XS.aload X1205.here hx rfl (hb hby at_219) rfl rfl ?_
    refine XS.iload X1205.here hx rfl (hb hby at_221) rfl ?_
    exact hh)
   obtain ⟨cq1269, kq1270, qa1271, qb1272, qc1273⟩ := isOf hZ98 e1256 F1223
   obtain ⟨_, _, ⟨T1258, L1259, k_1260, n_1261⟩, -, X1262, ⟨Lc1263, hQ1264, l_1265, y_1266, z_1267⟩, st1268⟩ := X1205.virtualBack hx (y := (⟨"com/example/level_slate/levelslate/TopicCandidates", "getCandidate", "(I)Ljava/lang/String;"⟩ : MethodName)) (z := (⟨"com/example/level_slate/levelslate/TopicCandidates", "getCandidate", "(I)Ljava/lang/String;"⟩ : MethodName)) hown99 (mvT hZ98 (wT hw 254 rfl)) (mvT hZ98 (wT hw 255 rfl)) (notFace_of_selects (args := #[]) (mvT hZ98 (wT hw 257 rfl))) (mvT hZ98 (wT hw 257 rfl)) (mvT hZ98 (wT hw 256 rfl)) (by decide) (backOf (W := 1) (rmGcN0 l Z a0 hw [] a1170 r1220 q1221 kq1222 r41 r71 r102 T1201.heap n0 Z1253 F1224 F1225 F1226 F1227 F1230 ) hZ98 (wT hw 258 rfl) (wT hw 123 rfl) (by decide) (by decide)) qa1271 qc1273 (g := (mkF m 223 #[.val (.int av), .val (.int bv), .val (.int cv), .val (.int nv), .val (.int iv), .val (.int tv), .val (.int (3 : Int32)), .val (.ref r41), .val (.ref r71), .val (.ref r102), .val (.ref a123), .val (.ref a170), .val (.ref r1130), .val (.ref a1170), .val (.int (0 : Int32)), .val (.ref r41)] [(.int (0 : Int32)), (.ref a1170), (.ref r41)])) rfl (by rw [hml]; rfl) (Steps.refl _) (argsL := [(.int (0 : Int32))]) (rest := [(.ref r41)]) (lenOf own_h514 rfl) rfl (by show 2 * 0 + _ ≤ _; exact Nat.le_of_eq rfl) (hb hby at_223) (fun _ _ => ⟨rfl, e1256, own_l rfl, own_l rfl⟩)
   dsimp only [Pt.U, Pt.locs, Pt.cells, Pt.slots] at X1262 l_1265 y_1266 z_1267 st1268 hQ1264
   subst l_1265 y_1266 z_1267
   obtain ⟨rfl, N1274, e1275⟩ := hQ1264
   have N1276 := Fr.app N1229 N1274
   have k74 : own_J p e below T1258 m 226 #[.val (.int av), .val (.int bv), .val (.int cv), .val (.int nv), .val (.int iv), .val (.int tv), .val (.int (3 : Int32)), .val (.ref r41), .val (.ref r71), .val (.ref r102), .val (.ref a123), .val (.ref a170), .val (.ref r1130), .val (.ref a1170), .val (.int (0 : Int32)), .val (.ref r41)] [(.ref r41), (.ref r41)] B_ := fun t_ hh => k73 t_ (st1268.trans hh)
   obtain ⟨cq1288, kq1289, qa1290, qb1291, qc1292⟩ := isOf hZ98 e1275 F1230
   obtain ⟨_, _, ⟨T1277, L1278, k_1279, n_1280⟩, -, X1281, ⟨Lc1282, hQ1283, l_1284, y_1285, z_1286⟩, st1287⟩ := X1262.virtualBack hx (y := (⟨"java/lang/String", "equals", "(Ljava/lang/Object;)Z"⟩ : MethodName)) (z := (⟨"java/lang/String", "equals", "(Ljava/lang/Object;)Z"⟩ : MethodName)) hown99 (mvT hZ98 (wT hw 266 rfl)) (mvT hZ98 (wT hw 267 rfl)) (notFace_of_selects (args := #[]) (mvT hZ98 (wT hw 269 rfl))) (mvT hZ98 (wT hw 269 rfl)) (mvT hZ98 (wT hw 268 rfl)) (by decide) (backOf (W := 0) (rmEq l Z a0 hw [] r41 T1201.heap n0 Z1253  ) hZ98 (wT hw 270 rfl) (wT hw 7 rfl) (by decide) (by decide)) qa1290 qc1292 (g := (mkF m 226 #[.val (.int av), .val (.int bv), .val (.int cv), .val (.int nv), .val (.int iv), .val (.int tv), .val (.int (3 : Int32)), .val (.ref r41), .val (.ref r71), .val (.ref r102), .val (.ref a123), .val (.ref a170), .val (.ref r1130), .val (.ref a1170), .val (.int (0 : Int32)), .val (.ref r41)] [(.ref r41), (.ref r41)])) rfl (by rw [hml]; rfl) (Steps.refl _) (argsL := [(.ref r41)]) (rest := []) (lenOf own_h515 rfl) rfl (by show 2 * 0 + _ ≤ _; exact Nat.le_of_eq rfl) (hb hby at_226) (fun _ _ => ⟨rfl, e1275, own_l rfl, own_l rfl⟩)
   dsimp only [Pt.U, Pt.locs, Pt.cells, Pt.slots] at X1281 l_1284 y_1285 z_1286 st1287 hQ1283
   subst l_1284 y_1285 z_1286
   obtain ⟨rfl, N1293, e1294⟩ := hQ1283
   have N1295 := Fr.app N1276 N1293
   have k75 : own_J p e below T1277 m 229 #[.val (.int av), .val (.int bv), .val (.int cv), .val (.int nv), .val (.int iv), .val (.int tv), .val (.int (3 : Int32)), .val (.ref r41), .val (.ref r71), .val (.ref r102), .val (.ref a123), .val (.ref a170), .val (.ref r1130), .val (.ref a1170), .val (.int (0 : Int32)), .val (.ref r41)] [(.int (1 : Int32))] B_ := fun t_ hh => k74 t_ (st1287.trans hh)
   obtain ⟨fs, hr, hrun, hended, hEnd⟩ := X1281.leaveW hS97 (by rw [e1294]; exact hk1254) (v := some (.int (1 : Int32))) (fun h => by rw [Bd.returns] at h; cases h)
   refine ⟨_, _, (own_from hB_ (k75 _ (retN X1281 hx (t := .boolean) Bd.returns (by simp) (hb hby at_229) hr))), hrun, hended, _, _, rfl, ?_, hEnd.1, hEnd.2.1, hEnd.2.2.1, hEnd.2.2.2.mono (own_l rfl) (own_l rfl)⟩
   show QL h0 n0 _ T1277.heap _
   rw [e1294]
   exact ⟨rfl, N1295⟩
  ·
   have k76 : own_J p e below T1201 m 188 #[.val (.int av), .val (.int bv), .val (.int cv), .val (.int nv), .val (.int iv), .val (.int tv), .val (.int (3 : Int32)), .val (.ref r41), .val (.ref r71), .val (.ref r102), .val (.ref a123), .val (.ref a170), .val (.ref r1130), .val (.ref a1170), .val (.int (1 : Int32)), .unset] [] B_ := by have q := k71; rw [ec1257] at q; exact q
   have k77 : own_J p e below T1201 m 223 #[.val (.int av), .val (.int bv), .val (.int cv), .val (.int nv), .val (.int iv), .val (.int tv), .val (.int (3 : Int32)), .val (.ref r41), .val (.ref r71), .val (.ref r102), .val (.ref a123), .val (.ref a170), .val (.ref r1130), .val (.ref a1170), .val (.int (1 : Int32)), .val (.ref r71)] [(.int (1 : Int32)), (.ref a1170), (.ref r71)] B_ := fun t_ hh => k76 t_ (by
    refine XS.iload X1205.here hx rfl (hb hby at_188) rfl ?_
    refine XS.ifYes X1205.here hx rfl (pc0 := 190) (pc' := 200) rfl (hb hby at_190) rfl (by decide) (by decide) (by decide) ?_
    refine XS.iload X1205.here hx rfl (hb hby at_200) rfl ?_
    refine XS.iconst X1205.here hx rfl (hb hby at_202) ?_
    refine XS.icmpNo X1205.here hx rfl (hb hby at_203) rfl (by decide) ?_
    refine XS.aload X1205.here hx rfl (hb hby at_206) rfl rfl ?_
    refine XS.astore X1205.here hx rfl (hb hby at_208) rfl rfl (l' := #[.val (.int av), .val (.int bv), .val (.int cv), .val (.int nv), .val (.int iv), .val (.int tv), .val (.int (3 : Int32)), .val (.ref r41), .val (.ref r71), .val (.ref r102), .val (.ref a123), .val (.ref a170), .val (.ref r1130), .val (.ref a1170), .val (.int (1 : Int32)), .val (.ref r71)]) rfl ?_
    refine XS.goto X1205.here hx rfl (pc0 := 210) (pc' := 217) rfl (hb hby at_210) (by decide) (by decide) ?_
    refine XS.aload X1205.here hx rfl (hb hby at_217) rfl rfl ?_
    refine XS.aload X1205.here hx rfl (hb hby at_219) rfl rfl ?_
    refine XS.iload X1205.here hx rfl (hb hby at_221) rfl ?_
    exact hh)
   obtain ⟨cq1307, kq1308, qa1309, qb1310, qc1311⟩ := isOf hZ98 e1256 F1223
   obtain ⟨_, _, ⟨T1296, L1297, k_1298, n_1299⟩, -, X1300, ⟨Lc1301, hQ1302, l_1303, y_1304, z_1305⟩, st1306⟩ := X1205.virtualBack hx (y := (⟨"com/example/level_slate/levelslate/TopicCandidates", "getCandidate", "(I)Ljava/lang/String;"⟩ : MethodName)) (z := (⟨"com/example/level_slate/levelslate/TopicCandidates", "getCandidate", "(I)Ljava/lang/String;"⟩ : MethodName)) hown99 (mvT hZ98 (wT hw 254 rfl)) (mvT hZ98 (wT hw 255 rfl)) (notFace_of_selects (args := #[]) (mvT hZ98 (wT hw 257 rfl))) (mvT hZ98 (wT hw 257 rfl)) (mvT hZ98 (wT hw 256 rfl)) (by decide) (backOf (W := 1) (rmGcN1 l Z a0 hw [] a1170 r1220 q1221 kq1222 r41 r71 r102 T1201.heap n0 Z1253 F1224 F1225 F1226 F1227 F1231 ) hZ98 (wT hw 258 rfl) (wT hw 123 rfl) (by decide) (by decide)) qa1309 qc1311 (g := (mkF m 223 #[.val (.int av), .val (.int bv), .val (.int cv), .val (.int nv), .val (.int iv), .val (.int tv), .val (.int (3 : Int32)), .val (.ref r41), .val (.ref r71), .val (.ref r102), .val (.ref a123), .val (.ref a170), .val (.ref r1130), .val (.ref a1170), .val (.int (1 : Int32)), .val (.ref r71)] [(.int (1 : Int32)), (.ref a1170), (.ref r71)])) rfl (by rw [hml]; rfl) (Steps.refl _) (argsL := [(.int (1 : Int32))]) (rest := [(.ref r71)]) (lenOf own_h514 rfl) rfl (by show 2 * 0 + _ ≤ _; exact Nat.le_of_eq rfl) (hb hby at_223) (fun _ _ => ⟨rfl, e1256, own_l rfl, own_l rfl⟩)
   dsimp only [Pt.U, Pt.locs, Pt.cells, Pt.slots] at X1300 l_1303 y_1304 z_1305 st1306 hQ1302
   subst l_1303 y_1304 z_1305
   obtain ⟨rfl, N1312, e1313⟩ := hQ1302
   have N1314 := Fr.app N1229 N1312
   have k78 : own_J p e below T1296 m 226 #[.val (.int av), .val (.int bv), .val (.int cv), .val (.int nv), .val (.int iv), .val (.int tv), .val (.int (3 : Int32)), .val (.ref r41), .val (.ref r71), .val (.ref r102), .val (.ref a123), .val (.ref a170), .val (.ref r1130), .val (.ref a1170), .val (.int (1 : Int32)), .val (.ref r71)] [(.ref r71), (.ref r71)] B_ := fun t_ hh => k77 t_ (st1306.trans hh)
   obtain ⟨cq1326, kq1327, qa1328, qb1329, qc1330⟩ := isOf hZ98 e1313 F1231
   obtain ⟨_, _, ⟨T1315, L1316, k_1317, n_1318⟩, -, X1319, ⟨Lc1320, hQ1321, l_1322, y_1323, z_1324⟩, st1325⟩ := X1300.virtualBack hx (y := (⟨"java/lang/String", "equals", "(Ljava/lang/Object;)Z"⟩ : MethodName)) (z := (⟨"java/lang/String", "equals", "(Ljava/lang/Object;)Z"⟩ : MethodName)) hown99 (mvT hZ98 (wT hw 266 rfl)) (mvT hZ98 (wT hw 267 rfl)) (notFace_of_selects (args := #[]) (mvT hZ98 (wT hw 269 rfl))) (mvT hZ98 (wT hw 269 rfl)) (mvT hZ98 (wT hw 268 rfl)) (by decide) (backOf (W := 0) (rmEq l Z a0 hw [] r71 T1201.heap n0 Z1253  ) hZ98 (wT hw 270 rfl) (wT hw 7 rfl) (by decide) (by decide)) qa1328 qc1330 (g := (mkF m 226 #[.val (.int av), .val (.int bv), .val (.int cv), .val (.int nv), .val (.int iv), .val (.int tv), .val (.int (3 : Int32)), .val (.ref r41), .val (.ref r71), .val (.ref r102), .val (.ref a123), .val (.ref a170), .val (.ref r1130), .val (.ref a1170), .val (.int (1 : Int32)), .val (.ref r71)] [(.ref r71), (.ref r71)])) rfl (by rw [hml]; rfl) (Steps.refl _) (argsL := [(.ref r71)]) (rest := []) (lenOf own_h515 rfl) rfl (by show 2 * 0 + _ ≤ _; exact Nat.le_of_eq rfl) (hb hby at_226) (fun _ _ => ⟨rfl, e1313, own_l rfl, own_l rfl⟩)
   dsimp only [Pt.U, Pt.locs, Pt.cells, Pt.slots] at X1319 l_1322 y_1323 z_1324 st1325 hQ1321
   subst l_1322 y_1323 z_1324
   obtain ⟨rfl, N1331, e1332⟩ := hQ1321
   have N1333 := Fr.app N1314 N1331
   have k79 : own_J p e below T1315 m 229 #[.val (.int av), .val (.int bv), .val (.int cv), .val (.int nv), .val (.int iv), .val (.int tv), .val (.int (3 : Int32)), .val (.ref r41), .val (.ref r71), .val (.ref r102), .val (.ref a123), .val (.ref a170), .val (.ref r1130), .val (.ref a1170), .val (.int (1 : Int32)), .val (.ref r71)] [(.int (1 : Int32))] B_ := fun t_ hh => k78 t_ (st1325.trans hh)
   obtain ⟨fs, hr, hrun, hended, hEnd⟩ := X1319.leaveW hS97 (by rw [e1332]; exact hk1254) (v := some (.int (1 : Int32))) (fun h => by rw [Bd.returns] at h; cases h)
   refine ⟨_, _, (own_from hB_ (k79 _ (retN X1319 hx (t := .boolean) Bd.returns (by simp) (hb hby at_229) hr))), hrun, hended, _, _, rfl, ?_, hEnd.1, hEnd.2.1, hEnd.2.2.1, hEnd.2.2.2.mono (own_l rfl) (own_l rfl)⟩
   show QL h0 n0 _ T1315.heap _
   rw [e1332]
   exact ⟨rfl, N1333⟩
  ·
   have k80 : own_J p e below T1201 m 188 #[.val (.int av), .val (.int bv), .val (.int cv), .val (.int nv), .val (.int iv), .val (.int tv), .val (.int (3 : Int32)), .val (.ref r41), .val (.ref r71), .val (.ref r102), .val (.ref a123), .val (.ref a170), .val (.ref r1130), .val (.ref a1170), .val (.int (2 : Int32)), .unset] [] B_ := by have q := k71; rw [ec1257] at q; exact q
   have k81 : own_J p e below T1201 m 223 #[.val (.int av), .val (.int bv), .val (.int cv), .val (.int nv), .val (.int iv), .val (.int tv), .val (.int (3 : Int32)), .val (.ref r41), .val (.ref r71), .val (.ref r102), .val (.ref a123), .val (.ref a170), .val (.ref r1130), .val (.ref a1170), .val (.int (2 : Int32)), .val (.ref r102)] [(.int (2 : Int32)), (.ref a1170), (.ref r102)] B_ := fun t_ hh => k80 t_ (by
    refine XS.iload X1205.here hx rfl (hb hby at_188) rfl ?_
    refine XS.ifYes X1205.here hx rfl (pc0 := 190) (pc' := 200) rfl (hb hby at_190) rfl (by decide) (by decide) (by decide) ?_
    refine XS.iload X1205.here hx rfl (hb hby at_200) rfl ?_
    refine XS.iconst X1205.here hx rfl (hb hby at_202) ?_
    refine XS.icmpYes X1205.here hx rfl (pc0 := 203) (pc' := 213) rfl (hb hby at_203) rfl (by decide) (by decide) (by decide) ?_
    refine XS.aload X1205.here hx rfl (hb hby at_213) rfl rfl ?_
    refine XS.astore X1205.here hx rfl (hb hby at_215) rfl rfl (l' := #[.val (.int av), .val (.int bv), .val (.int cv), .val (.int nv), .val (.int iv), .val (.int tv), .val (.int (3 : Int32)), .val (.ref r41), .val (.ref r71), .val (.ref r102), .val (.ref a123), .val (.ref a170), .val (.ref r1130), .val (.ref a1170), .val (.int (2 : Int32)), .val (.ref r102)]) rfl ?_
    refine XS.aload X1205.here hx rfl (hb hby at_217) rfl rfl ?_
    refine XS.aload X1205.here hx rfl (hb hby at_219) rfl rfl ?_
    refine XS.iload X1205.here hx rfl (hb hby at_221) rfl ?_
    exact hh)
   obtain ⟨cq1345, kq1346, qa1347, qb1348, qc1349⟩ := isOf hZ98 e1256 F1223
   obtain ⟨_, _, ⟨T1334, L1335, k_1336, n_1337⟩, -, X1338, ⟨Lc1339, hQ1340, l_1341, y_1342, z_1343⟩, st1344⟩ := X1205.virtualBack hx (y := (⟨"com/example/level_slate/levelslate/TopicCandidates", "getCandidate", "(I)Ljava/lang/String;"⟩ : MethodName)) (z := (⟨"com/example/level_slate/levelslate/TopicCandidates", "getCandidate", "(I)Ljava/lang/String;"⟩ : MethodName)) hown99 (mvT hZ98 (wT hw 254 rfl)) (mvT hZ98 (wT hw 255 rfl)) (notFace_of_selects (args := #[]) (mvT hZ98 (wT hw 257 rfl))) (mvT hZ98 (wT hw 257 rfl)) (mvT hZ98 (wT hw 256 rfl)) (by decide) (backOf (W := 1) (rmGcN2 l Z a0 hw [] a1170 r1220 q1221 kq1222 r41 r71 r102 T1201.heap n0 Z1253 F1224 F1225 F1226 F1227 F1232 ) hZ98 (wT hw 258 rfl) (wT hw 123 rfl) (by decide) (by decide)) qa1347 qc1349 (g := (mkF m 223 #[.val (.int av), .val (.int bv), .val (.int cv), .val (.int nv), .val (.int iv), .val (.int tv), .val (.int (3 : Int32)), .val (.ref r41), .val (.ref r71), .val (.ref r102), .val (.ref a123), .val (.ref a170), .val (.ref r1130), .val (.ref a1170), .val (.int (2 : Int32)), .val (.ref r102)] [(.int (2 : Int32)), (.ref a1170), (.ref r102)])) rfl (by rw [hml]; rfl) (Steps.refl _) (argsL := [(.int (2 : Int32))]) (rest := [(.ref r102)]) (lenOf own_h514 rfl) rfl (by show 2 * 0 + _ ≤ _; exact Nat.le_of_eq rfl) (hb hby at_223) (fun _ _ => ⟨rfl, e1256, own_l rfl, own_l rfl⟩)
   dsimp only [Pt.U, Pt.locs, Pt.cells, Pt.slots] at X1338 l_1341 y_1342 z_1343 st1344 hQ1340
   subst l_1341 y_1342 z_1343
   obtain ⟨rfl, N1350, e1351⟩ := hQ1340
   have N1352 := Fr.app N1229 N1350
   have k82 : own_J p e below T1334 m 226 #[.val (.int av), .val (.int bv), .val (.int cv), .val (.int nv), .val (.int iv), .val (.int tv), .val (.int (3 : Int32)), .val (.ref r41), .val (.ref r71), .val (.ref r102), .val (.ref a123), .val (.ref a170), .val (.ref r1130), .val (.ref a1170), .val (.int (2 : Int32)), .val (.ref r102)] [(.ref r102), (.ref r102)] B_ := fun t_ hh => k81 t_ (st1344.trans hh)
   obtain ⟨cq1364, kq1365, qa1366, qb1367, qc1368⟩ := isOf hZ98 e1351 F1232
   obtain ⟨_, _, ⟨T1353, L1354, k_1355, n_1356⟩, -, X1357, ⟨Lc1358, hQ1359, l_1360, y_1361, z_1362⟩, st1363⟩ := X1338.virtualBack hx (y := (⟨"java/lang/String", "equals", "(Ljava/lang/Object;)Z"⟩ : MethodName)) (z := (⟨"java/lang/String", "equals", "(Ljava/lang/Object;)Z"⟩ : MethodName)) hown99 (mvT hZ98 (wT hw 266 rfl)) (mvT hZ98 (wT hw 267 rfl)) (notFace_of_selects (args := #[]) (mvT hZ98 (wT hw 269 rfl))) (mvT hZ98 (wT hw 269 rfl)) (mvT hZ98 (wT hw 268 rfl)) (by decide) (backOf (W := 0) (rmEq l Z a0 hw [] r102 T1201.heap n0 Z1253  ) hZ98 (wT hw 270 rfl) (wT hw 7 rfl) (by decide) (by decide)) qa1366 qc1368 (g := (mkF m 226 #[.val (.int av), .val (.int bv), .val (.int cv), .val (.int nv), .val (.int iv), .val (.int tv), .val (.int (3 : Int32)), .val (.ref r41), .val (.ref r71), .val (.ref r102), .val (.ref a123), .val (.ref a170), .val (.ref r1130), .val (.ref a1170), .val (.int (2 : Int32)), .val (.ref r102)] [(.ref r102), (.ref r102)])) rfl (by rw [hml]; rfl) (Steps.refl _) (argsL := [(.ref r102)]) (rest := []) (lenOf own_h515 rfl) rfl (by show 2 * 0 + _ ≤ _; exact Nat.le_of_eq rfl) (hb hby at_226) (fun _ _ => ⟨rfl, e1351, own_l rfl, own_l rfl⟩)
   dsimp only [Pt.U, Pt.locs, Pt.cells, Pt.slots] at X1357 l_1360 y_1361 z_1362 st1363 hQ1359
   subst l_1360 y_1361 z_1362
   obtain ⟨rfl, N1369, e1370⟩ := hQ1359
   have N1371 := Fr.app N1352 N1369
   have k83 : own_J p e below T1353 m 229 #[.val (.int av), .val (.int bv), .val (.int cv), .val (.int nv), .val (.int iv), .val (.int tv), .val (.int (3 : Int32)), .val (.ref r41), .val (.ref r71), .val (.ref r102), .val (.ref a123), .val (.ref a170), .val (.ref r1130), .val (.ref a1170), .val (.int (2 : Int32)), .val (.ref r102)] [(.int (1 : Int32))] B_ := fun t_ hh => k82 t_ (st1363.trans hh)
   obtain ⟨fs, hr, hrun, hended, hEnd⟩ := X1357.leaveW hS97 (by rw [e1370]; exact hk1254) (v := some (.int (1 : Int32))) (fun h => by rw [Bd.returns] at h; cases h)
   refine ⟨_, _, (own_from hB_ (k83 _ (retN X1357 hx (t := .boolean) Bd.returns (by simp) (hb hby at_229) hr))), hrun, hended, _, _, rfl, ?_, hEnd.1, hEnd.2.1, hEnd.2.2.1, hEnd.2.2.2.mono (own_l rfl) (own_l rfl)⟩
   show QL h0 n0 _ T1353.heap _
   rw [e1370]
   exact ⟨rfl, N1371⟩
set_option maxRecDepth 65536 in
set_option maxHeartbeats 40000000 in
theorem comes_1 {Post : Tables → Env → Array Value → State → Outcome → State → Prop} (hpost : ∀ tb e args s v u, (limb_1_1.after args s (.returned v) u = true ∧ limb_1_2.after args s (.returned v) u = true ∧ True) → ReturnedEndW s (.returned v) u (Jvm.fieldLocs frame_1_writes args s ++ Jvm.arrayLocs frame_1_arrays args s ++ Jvm.staticLocs frame_1_statics s) 56 1280 → Post tb e args s (.returned v) u) :
    ArmFor flags0 classFile x code maxLocals ret World_1 tables_1 room_1 Calls_1 rest_1 Pre_1 Post := by
  intro l hfl _ _ p e ha hc hk s m args below hf hA hF happ hP
  obtain ⟨hcalls, hrest, hpre⟩ := hP
  obtain ⟨-, -, -, hnamed, -, -, -, hat⟩ := (Spec.applies_iff hf).mp happ
  obtain ⟨hg, hn⟩ := and_e (Cond.before_iff.mp (show (Jvm.Cond.and given_1 narrow_1).before args s = true from hpre))
  obtain ⟨h1, g0⟩ := and_e hg
  obtain ⟨j0, g1⟩ := and_e g0
  obtain ⟨j1, g2⟩ := and_e g1
  obtain ⟨j2, g3⟩ := and_e g2
  obtain ⟨j3, g4⟩ := and_e g3
  obtain ⟨j4, g5⟩ := and_e g4
  have j5 := g5
  obtain ⟨w0, w1, w2, w3, w4, w5, rfl⟩ : ∃ w0 w1 w2 w3 w4 w5 : Value, args = #[w0, w1, w2, w3, w4, w5] := by
    have hs : args.size = 6 := by simpa [Cond.value, given_1] using h1
    obtain ⟨L⟩ := args
    match L, hs with
    | [w0, w1, w2, w3, w4, w5], _ => exact ⟨w0, w1, w2, w3, w4, w5, rfl⟩
  have hw := fun d (hd : d ∈ tables_1) => atoms_spec (ws := Jvm.Cond.code x code maxLocals ret :: tables_1) hat d (List.mem_cons_of_mem _ hd)
  have hfit : Fit s := fun {y c} hc i hi => by
    obtain ⟨ha, rfl⟩ := Array.getElem?_eq_some_iff.mp hc
    have q := List.all_eq_true.mp ((Array.all_eq_true_iff_forall_mem.mp hF) _ (Array.getElem_mem ha)) i (List.mem_range.mpr hi)
    simpa [Array.getElem?_eq_getElem hi] using q
  obtain ⟨i0, q0⟩ := is_v j0
  obtain rfl : w0 = (.int i0) := Option.some.inj q0
  obtain ⟨i1, q1⟩ := is_v j1
  obtain rfl : w1 = (.int i1) := Option.some.inj q1
  obtain ⟨i2, q2⟩ := is_v j2
  obtain rfl : w2 = (.int i2) := Option.some.inj q2
  obtain ⟨i3, q3⟩ := is_v j3
  obtain rfl : w3 = (.int i3) := Option.some.inj q3
  obtain ⟨i4, q4⟩ := is_v j4
  obtain rfl : w4 = (.int i4) := Option.some.inj q4
  obtain ⟨i5, q5⟩ := is_v j5
  obtain rfl : w5 = (.int i5) := Option.some.inj q5
  obtain ⟨hsets, hown0⟩ := atoms_of _ (rest_1_c_eq ▸ (show rest_1_c.before _ s = true from hrest))
  have n5 := not_v (Cond.before_iff.mp (hsets _ (List.mem_of_getElem? (i := 11) rfl)))
  obtain ⟨ci, eci⟩ := is_v (Cond.before_iff.mp (hsets _ (List.mem_of_getElem? (i := 10) rfl)))
  have sC : Sta s s.heap "java/lang/String" "COMPACT_STRINGS" "Z" (.int ci) := Sta.start eci (Or.inl (hsets _ (List.mem_of_getElem? (i := 9) rfl)))
  have hc0 : ¬ ci = 0 := gotF (Cond.eq_ints eci (Term.int_eval 0)) n5
  obtain ⟨dz, edz⟩ := arr_v (Cond.before_iff.mp (hsets _ (List.mem_of_getElem? (i := 6) rfl)))
  obtain ⟨clz, Az⟩ := Arr.start edz (Cond.before_iff.mp (hsets _ (List.mem_of_getElem? (i := 6) rfl)))
  have sD : Sta s s.heap "java/util/ArrayList" "DEFAULTCAPACITY_EMPTY_ELEMENTDATA" "[Ljava/lang/Object;" (.ref dz) := Sta.start edz (Or.inr ⟨(wT hw 29 rfl), (hsets _ (List.mem_of_getElem? (i := 2) rfl))⟩)
  obtain ⟨b_, cell_, l1, l2, l3, l4⟩ := Jvm.Lib.length_spec (own_eqInt (Cond.before_iff.mp (hsets _ (List.mem_of_getElem? (i := 8) rfl))))
  cases edz.symm.trans l1
  cases (Az.fin (Vm.Alike.refl _)).symm.trans l2
  have aD : Arv s s.heap dz clz.cls (.object "java/lang/Object") (0 : Int32) [] .null := Arv.start hfit Az l3 (Value.int.inj l4).symm (by decide) rfl trivial
  obtain ⟨em, eem⟩ := exa_v (Cond.before_iff.mp (hsets _ (List.mem_of_getElem? (i := 20) rfl)))
  have hEm := (Exa.start eem (Cond.before_iff.mp (hsets _ (List.mem_of_getElem? (i := 20) rfl)))).lt
  have sE : Sta s s.heap "java/util/ImmutableCollections" "EMPTY" "Ljava/lang/Object;" (.ref em) := Sta.start eem (Or.inl (hsets _ (List.mem_of_getElem? (i := 19) rfl)))
  obtain ⟨c_, k_, mr, m1_, m2_, m3_, -⟩ := hcalls.1
  have hM : own_Mir s "[Ljava/lang/Object;" mr := ⟨c_, k_, m1_, m2_, m3_⟩
  have hCH : CHv s own_EL s.vm s.heap := CHv.start (own_EW hw) (fun p hp => hcalls.2.1 p hp) (hsets _ (List.mem_of_getElem? (i := 11) rfl)) (wT hw 20 rfl) (wT hw 6 rfl)
  obtain ⟨n, o, h1, h2, h3, _, L, rfl, ⟨rfl, N⟩, hq⟩ := rmL l s _ hw tables_1 i0 i1 i2 i3 i4 i5 s.heap s.heap.size (Nat.le_refl _) (Old.start s) ci sC hc0 dz clz.cls sD aD em sE mr hM hEm p e ha hc hk s m _ below hf ((Spec.applies_iff_loose hf).mp happ).1 ⟨rfl, State.Warmed39.refl s, rfl, hCH⟩ trivial
  refine ⟨n, _, h1, h2, h3, hpost _ _ _ _ _ _ ⟨Cond.after_iff.mpr rfl, Cond.after_iff.mpr (eq_i res_at (Term.int_eval (1)) rfl), trivial⟩ ⟨hq.1, hq.2.1, hq.2.2.1, (hq.2.2.2.sift fun y hy => Or.inr (N y hy)).mono (by decide) (by decide)⟩⟩
theorem main_1_1 : Claimed_1_1 := comes_1 fun _ _ _ _ _ _ h hF => ⟨h.1, hF⟩
theorem main_1_2 : Claimed_1_2 := comes_1 fun _ _ _ _ _ _ h hF => ⟨h.2.1, hF⟩
end Jvm.Pilot.@@N@@
namespace Jvm.Pilot.@@N@@
open Jvm Jvm.ClassFile Sem Op Lib Jvm.Free Jvm.Stand Jvm.Pilot.@@N@@.Jvm.D
/-! MADE BY PROGRAM (witnessworld.py) out of the Statement's table words and the real class files: 43 classes; the members and pool entries that the words name. The judged class is class 1, her method 2. -/
namespace start1
open Jvm.ClassFile
def u (s : String) : CpInfo := .utf8 (stringToUtf16 s)
/-- a pool by its gaps: so many unusable entries, then the entry; so many at the end -/
def gap : Nat → List CpInfo → List CpInfo
  | 0, r => r
  | n + 1, r => .unusable :: gap n r
def poolList (es : List (Nat × CpInfo)) (last : Nat) : List CpInfo := es.foldr (fun e r => gap e.1 (e.2 :: r)) (gap last [])
def pool (es : List (Nat × CpInfo)) (last : Nat) : Array CpInfo := ⟨poolList es last⟩
def fileOf (pool : Array CpInfo) (this : Nat) (attrs : Array Attribute := #[]) (ms : Array MethodInfo := #[]) (fl : Nat := 33) (sup : Nat := 0) (ifs : Array Nat := #[]) (fds : Array FieldInfo := #[]) : ClassFile where
  minorVersion := 0
  majorVersion := 65
  constantPool := pool
  accessFlags := fl
  thisClass := this
  superClass := sup
  interfaces := ifs
  fields := fds
  methods := ms
  attributes := attrs
def plain (name : String) (sup : Option ClassId) : Class where
  name := name
  kind := .ordinary
  loader := none
  accessFlags := 33
  super := sup
  interfaces := #[]
  cf := none
  fields := #[]
  methods := #[]
  instanceTypes := #[]
  staticTypes := #[]
  resolved := #[]
  callSites := []
  init := .initialized
  statics := none
  mirror := none

def pool0 : Array CpInfo := pool [(5, u "<init>"), (0, u "()V"), (1, .class_ 10), (1, u "java/lang/Object"), (0, u "getClass"), (0, u "()Ljava/lang/Class;")] 111

def k0c0 : Code := { maxStack := 0, maxLocals := 1, code := object_method_1_code, exceptionTable := #[], attributes := #[] }
def k0m0 : Method := { name := "<init>", desc := "()V", sig := { parameters := [], returnType := none }, accessFlags := 1, code := some k0c0 }
def k0m1 : Method := { name := "getClass", desc := "()Ljava/lang/Class;", sig := { parameters := [], returnType := some (.object "java/lang/Class") }, accessFlags := 273, code := none }
/-- java/lang/Object -/
def k0 : Class := { plain "java/lang/Object" none with
  accessFlags := 33
  interfaces := #[]
  cf := some (fileOf pool0 8 #[] #[{ accessFlags := 1, nameIndex := 5, descriptorIndex := 6, attributes := #[] }, { accessFlags := 273, nameIndex := 11, descriptorIndex := 12, attributes := #[] }] 33 0 #[] #[])
  fields := #[]
  methods := #[k0m0, k0m1]
  instanceTypes := #[]
  staticTypes := #[]
  resolved := Array.replicate 124 none
  statics := none }

def pool1 : Array CpInfo := pool [(2, .class_ 4), (0, .nameAndType 5 6), (0, u "java/lang/Object"), (0, u "<init>"), (0, u "()V"), (0, .class_ 8), (0, u "java/lang/String"), (0, .methodref 7 10), (0, .nameAndType 5 11), (0, u "([C)V"), (0, .integer 2147483647), (0, .methodref 14 15), (0, .class_ 16), (0, .nameAndType 17 18), (0, u "com/example/level_slate/levelslate/TopicCandidatesGetCandidatePinLaw"), (0, u "str"), (0, u "(I)Ljava/lang/String;"), (0, .class_ 20), (0, u "java/util/ArrayList"), (0, .methodref 19 3), (0, .interfaceMethodref 23 24), (0, .class_ 25), (0, .nameAndType 26 27), (0, u "java/util/List"), (0, u "add"), (0, u "(Ljava/lang/Object;)Z"), (0, .methodref 29 30), (0, .class_ 31), (0, .nameAndType 32 33), (0, u "java/lang/Double"), (0, u "valueOf"), (0, u "(D)Ljava/lang/Double;"), (0, .methodref 7 35), (0, .nameAndType 32 36), (0, u "(C)Ljava/lang/String;"), (0, .class_ 38), (0, u "com/example/level_slate/levelslate/TopicCandidates"), (0, .methodref 37 40), (0, .nameAndType 5 41), (0, u "(Ljava/lang/String;Ljava/util/List;Ljava/util/List;)V"), (0, .methodref 37 43), (0, .nameAndType 44 18), (0, u "getCandidate"), (0, .methodref 7 46), (0, .nameAndType 47 27), (0, u "equals"), (3, u "law"), (0, u "(IIIIII)Z")] 2

def k1m0 : Method := { name := "<init>", desc := "()V", sig := { parameters := [], returnType := none }, accessFlags := 1, code := none }
def k1c1 : Code := { maxStack := 6, maxLocals := 5, code := method_2_code, exceptionTable := #[], attributes := #[] }
def k1m1 : Method := { name := "str", desc := "(I)Ljava/lang/String;", sig := { parameters := [.int], returnType := some (.object "java/lang/String") }, accessFlags := 10, code := some k1c1 }
def k1c2 : Code := { maxStack := 5, maxLocals := 16, code := code, exceptionTable := #[], attributes := #[] }
def k1m2 : Method := { name := "law", desc := "(IIIIII)Z", sig := { parameters := [.int, .int, .int, .int, .int, .int], returnType := some .boolean }, accessFlags := 9, code := some k1c2 }
/-- com/example/level_slate/levelslate/TopicCandidatesGetCandidatePinLaw -/
def k1 : Class := { plain "com/example/level_slate/levelslate/TopicCandidatesGetCandidatePinLaw" (some 0) with
  accessFlags := 49
  interfaces := #[]
  cf := some (fileOf pool1 14 #[] #[{ accessFlags := 1, nameIndex := 5, descriptorIndex := 6, attributes := #[] }, { accessFlags := 10, nameIndex := 17, descriptorIndex := 18, attributes := #[] }, { accessFlags := 9, nameIndex := 51, descriptorIndex := 52, attributes := #[] }] 49 2 #[] #[])
  fields := #[]
  methods := #[k1m0, k1m1, k1m2]
  instanceTypes := #[]
  staticTypes := #[]
  resolved := Array.replicate 55 none
  statics := none }

def pool2 : Array CpInfo := pool [(1, .class_ 2), (0, u "java/io/Serializable"), (0, .class_ 4), (0, u "java/lang/Object")] 2

/-- java/io/Serializable -/
def k2 : Class := { plain "java/io/Serializable" (some 0) with
  accessFlags := 1537
  interfaces := #[]
  cf := some (fileOf pool2 1 #[] #[] 1537 3 #[] #[])
  fields := #[]
  methods := #[]
  instanceTypes := #[]
  staticTypes := #[]
  resolved := Array.replicate 7 none
  statics := none }

def pool3 : Array CpInfo := pool [(1, .class_ 2), (0, u "java/lang/Comparable"), (0, .class_ 4), (0, u "java/lang/Object")] 7

/-- java/lang/Comparable -/
def k3 : Class := { plain "java/lang/Comparable" (some 0) with
  accessFlags := 1537
  interfaces := #[]
  cf := some (fileOf pool3 1 #[] #[] 1537 3 #[] #[])
  fields := #[]
  methods := #[]
  instanceTypes := #[]
  staticTypes := #[]
  resolved := Array.replicate 12 none
  statics := none }

def pool4 : Array CpInfo := pool [(2, .class_ 4), (1, u "java/lang/CharSequence"), (42, .class_ 48), (0, u "java/lang/CharSequence$1CodePointIterator"), (10, .class_ 60), (0, u "java/lang/CharSequence$1CharIterator"), (5, .class_ 67), (0, u "java/lang/Object")] 63

/-- java/lang/CharSequence -/
def k4 : Class := { plain "java/lang/CharSequence" (some 0) with
  accessFlags := 1537
  interfaces := #[]
  cf := some (fileOf pool4 2 #[.nestMembers #[47, 59]] #[] 1537 66 #[] #[])
  fields := #[]
  methods := #[]
  instanceTypes := #[]
  staticTypes := #[]
  resolved := Array.replicate 131 none
  statics := none }

def pool5 : Array CpInfo := pool [(1, .class_ 2), (0, u "java/lang/constant/Constable"), (0, .class_ 4), (0, u "java/lang/Object")] 6

/-- java/lang/constant/Constable -/
def k5 : Class := { plain "java/lang/constant/Constable" (some 0) with
  accessFlags := 1537
  interfaces := #[]
  cf := some (fileOf pool5 1 #[] #[] 1537 3 #[] #[])
  fields := #[]
  methods := #[]
  instanceTypes := #[]
  staticTypes := #[]
  resolved := Array.replicate 11 none
  statics := none }

def pool6 : Array CpInfo := pool [(1, .class_ 2), (0, u "java/lang/constant/ConstantDesc"), (0, .class_ 4), (0, u "java/lang/Object")] 32

/-- java/lang/constant/ConstantDesc -/
def k6 : Class := { plain "java/lang/constant/ConstantDesc" (some 0) with
  accessFlags := 1537
  interfaces := #[]
  cf := some (fileOf pool6 1 #[] #[] 1537 3 #[] #[])
  fields := #[]
  methods := #[]
  instanceTypes := #[]
  staticTypes := #[]
  resolved := Array.replicate 37 none
  statics := none }

def pool7 : Array CpInfo := pool [(1, .methodref 2 3), (0, .class_ 4), (0, .nameAndType 5 6), (0, u "java/lang/Object"), (0, u "<init>"), (0, u "()V"), (0, .string 8), (0, u ""), (0, .fieldref 10 11), (0, .class_ 12), (0, .nameAndType 13 14), (0, u "java/lang/String"), (0, u "value"), (0, u "[B"), (0, .fieldref 10 16), (0, .nameAndType 17 18), (0, u "coder"), (0, u "B"), (2, u "hash"), (0, u "I"), (2, u "hashIsZero"), (0, u "Z"), (0, .methodref 10 28), (0, .nameAndType 5 29), (0, u "([CIILjava/lang/Void;)V"), (8, .fieldref 10 39), (0, .nameAndType 40 26), (0, u "COMPACT_STRINGS"), (1, .class_ 44), (1, u "java/lang/StringUTF16"), (0, u "compress"), (1, .methodref 42 48), (0, .nameAndType 49 50), (0, u "coderFromArrayLen"), (0, u "([BI)B"), (2, u "toBytes"), (53, .class_ 109), (1, u "java/lang/StringLatin1"), (67, .methodref 42 178), (0, .nameAndType 45 179), (0, u "([CII)[B"), (29, .methodref 10 210), (0, .nameAndType 5 211), (0, u "([BB)V"), (157, u "(C)Z"), (173, u "equals"), (29, u "(Ljava/lang/Object;)Z"), (1, .class_ 576), (0, u "java/lang/CharSequence"), (22, u "CASE_INSENSITIVE_ORDER"), (0, u "Ljava/util/Comparator;"), (181, u "valueOf"), (0, u "(C)Ljava/lang/String;"), (226, u "([C)V"), (4, .methodref 107 1016), (0, .nameAndType 1017 369), (0, u "canEncode"), (0, .methodref 107 1019), (0, .nameAndType 53 1020), (0, u "(C)[B"), (80, u "serialPersistentFields"), (0, u "[Ljava/io/ObjectStreamField;"), (0, .class_ 1104), (0, u "java/lang/String$CaseInsensitiveComparator"), (1, .class_ 1107), (0, u "java/io/Serializable"), (0, .class_ 1109), (0, u "java/lang/Comparable"), (0, .class_ 1111), (0, u "java/lang/constant/Constable"), (0, .class_ 1113), (0, u "java/lang/constant/ConstantDesc"), (2, u "serialVersionUID"), (0, u "J"), (3, u "REPL"), (0, u "C"), (2, u "LATIN1"), (1, u "UTF16")] 323

def k7m0 : Method := { name := "<init>", desc := "()V", sig := { parameters := [], returnType := none }, accessFlags := 1, code := none }
def k7c1 : Code := { maxStack := 5, maxLocals := 2, code := jdk_42_method_3_code, exceptionTable := #[], attributes := #[] }
def k7m1 : Method := { name := "<init>", desc := "([C)V", sig := { parameters := [(.array .char)], returnType := none }, accessFlags := 1, code := some k7c1 }
def k7c2 : Code := { maxStack := 2, maxLocals := 3, code := jdk_42_method_66_code, exceptionTable := #[], attributes := #[] }
def k7m2 : Method := { name := "equals", desc := "(Ljava/lang/Object;)Z", sig := { parameters := [(.object "java/lang/Object")], returnType := some .boolean }, accessFlags := 1, code := some k7c2 }
def k7c3 : Code := { maxStack := 4, maxLocals := 1, code := jdk_42_method_139_code, exceptionTable := #[], attributes := #[] }
def k7m3 : Method := { name := "valueOf", desc := "(C)Ljava/lang/String;", sig := { parameters := [.char], returnType := some (.object "java/lang/String") }, accessFlags := 9, code := some k7c3 }
def k7c4 : Code := { maxStack := 4, maxLocals := 6, code := jdk_42_method_149_code, exceptionTable := #[], attributes := #[] }
def k7m4 : Method := { name := "<init>", desc := "([CIILjava/lang/Void;)V", sig := { parameters := [(.array .char), .int, .int, (.object "java/lang/Void")], returnType := none }, accessFlags := 2, code := some k7c4 }
def k7c5 : Code := { maxStack := 2, maxLocals := 3, code := jdk_42_method_151_code, exceptionTable := #[], attributes := #[] }
def k7m5 : Method := { name := "<init>", desc := "([BB)V", sig := { parameters := [(.array .byte), .byte], returnType := none }, accessFlags := 0, code := some k7c5 }
/-- java/lang/String -/
def k7 : Class := { plain "java/lang/String" (some 0) with
  accessFlags := 49
  interfaces := #[2, 3, 4, 5, 6]
  cf := some (fileOf pool7 10 #[.nestMembers #[1103]] #[{ accessFlags := 1, nameIndex := 5, descriptorIndex := 6, attributes := #[] }, { accessFlags := 1, nameIndex := 5, descriptorIndex := 1010, attributes := #[] }, { accessFlags := 1, nameIndex := 543, descriptorIndex := 573, attributes := #[] }, { accessFlags := 9, nameIndex := 782, descriptorIndex := 783, attributes := #[] }, { accessFlags := 2, nameIndex := 5, descriptorIndex := 29, attributes := #[] }, { accessFlags := 0, nameIndex := 5, descriptorIndex := 211, attributes := #[] }] 49 2 #[1106, 1108, 575, 1110, 1112] #[{ accessFlags := 18, nameIndex := 13, descriptorIndex := 14, attributes := #[] }, { accessFlags := 18, nameIndex := 17, descriptorIndex := 18, attributes := #[] }, { accessFlags := 2, nameIndex := 21, descriptorIndex := 22, attributes := #[] }, { accessFlags := 2, nameIndex := 25, descriptorIndex := 26, attributes := #[] }, { accessFlags := 26, nameIndex := 1116, descriptorIndex := 1117, attributes := #[] }, { accessFlags := 24, nameIndex := 40, descriptorIndex := 26, attributes := #[] }, { accessFlags := 26, nameIndex := 1101, descriptorIndex := 1102, attributes := #[] }, { accessFlags := 26, nameIndex := 1121, descriptorIndex := 1122, attributes := #[] }, { accessFlags := 25, nameIndex := 599, descriptorIndex := 600, attributes := #[] }, { accessFlags := 24, nameIndex := 1125, descriptorIndex := 18, attributes := #[] }, { accessFlags := 24, nameIndex := 1127, descriptorIndex := 18, attributes := #[] }])
  fields := #[{ name := "value", type := (.array .byte), accessFlags := 18, slot := 0, constantValue := 0 }, { name := "coder", type := .byte, accessFlags := 18, slot := 1, constantValue := 0 }, { name := "hash", type := .int, accessFlags := 2, slot := 2, constantValue := 0 }, { name := "hashIsZero", type := .boolean, accessFlags := 2, slot := 3, constantValue := 0 }, { name := "serialVersionUID", type := .long, accessFlags := 26, slot := 0, constantValue := 0 }, { name := "COMPACT_STRINGS", type := .boolean, accessFlags := 24, slot := 1, constantValue := 0 }, { name := "serialPersistentFields", type := (.array (.object "java/io/ObjectStreamField")), accessFlags := 26, slot := 2, constantValue := 0 }, { name := "REPL", type := .char, accessFlags := 26, slot := 3, constantValue := 0 }, { name := "CASE_INSENSITIVE_ORDER", type := (.object "java/util/Comparator"), accessFlags := 25, slot := 4, constantValue := 0 }, { name := "LATIN1", type := .byte, accessFlags := 24, slot := 5, constantValue := 0 }, { name := "UTF16", type := .byte, accessFlags := 24, slot := 6, constantValue := 0 }]
  methods := #[k7m0, k7m1, k7m2, k7m3, k7m4, k7m5]
  instanceTypes := #[(.array .byte), .byte, .int, .boolean]
  staticTypes := #[.long, .boolean, (.array (.object "java/io/ObjectStreamField")), .char, (.object "java/util/Comparator"), .byte, .byte]
  resolved := Array.replicate 1451 none
  statics := some 0 }

def pool8 : Array CpInfo := pool [(8, .class_ 10), (1, u "java/lang/Iterable"), (24, .class_ 36), (0, u "java/lang/Object")] 25

/-- java/lang/Iterable -/
def k8 : Class := { plain "java/lang/Iterable" (some 0) with
  accessFlags := 1537
  interfaces := #[]
  cf := some (fileOf pool8 8 #[] #[] 1537 35 #[] #[])
  fields := #[]
  methods := #[]
  instanceTypes := #[]
  staticTypes := #[]
  resolved := Array.replicate 62 none
  statics := none }

def pool9 : Array CpInfo := pool [(10, .class_ 12), (1, u "java/util/Collection"), (0, u "toArray"), (16, u "()Z"), (29, .class_ 61), (0, u "java/lang/Object"), (0, .class_ 63), (0, u "java/lang/Iterable"), (2, u "isEmpty"), (3, u "()[Ljava/lang/Object;")] 44

def k9m0 : Method := { name := "isEmpty", desc := "()Z", sig := { parameters := [], returnType := some .boolean }, accessFlags := 1025, code := none }
def k9m1 : Method := { name := "toArray", desc := "()[Ljava/lang/Object;", sig := { parameters := [], returnType := some (.array (.object "java/lang/Object")) }, accessFlags := 1025, code := none }
/-- java/util/Collection -/
def k9 : Class := { plain "java/util/Collection" (some 0) with
  accessFlags := 1537
  interfaces := #[8]
  cf := some (fileOf pool9 10 #[] #[{ accessFlags := 1025, nameIndex := 66, descriptorIndex := 30, attributes := #[] }, { accessFlags := 1025, nameIndex := 13, descriptorIndex := 70, attributes := #[] }] 1537 60 #[62] #[])
  fields := #[]
  methods := #[k9m0, k9m1]
  instanceTypes := #[]
  staticTypes := #[]
  resolved := Array.replicate 115 none
  statics := none }

def pool10 : Array CpInfo := pool [(1, .methodref 2 3), (0, .class_ 4), (0, .nameAndType 5 6), (0, u "java/lang/Object"), (0, u "<init>"), (0, u "()V"), (1, .class_ 10), (1, u "java/util/AbstractCollection"), (66, .class_ 78), (0, u "java/util/Collection")] 81

def k10c0 : Code := { maxStack := 1, maxLocals := 1, code := jdk_22_method_1_code, exceptionTable := #[], attributes := #[] }
def k10m0 : Method := { name := "<init>", desc := "()V", sig := { parameters := [], returnType := none }, accessFlags := 4, code := some k10c0 }
/-- java/util/AbstractCollection -/
def k10 : Class := { plain "java/util/AbstractCollection" (some 0) with
  accessFlags := 1057
  interfaces := #[9]
  cf := some (fileOf pool10 8 #[] #[{ accessFlags := 4, nameIndex := 5, descriptorIndex := 6, attributes := #[] }] 1057 2 #[77] #[])
  fields := #[]
  methods := #[k10m0]
  instanceTypes := #[]
  staticTypes := #[]
  resolved := Array.replicate 160 none
  statics := none }

def pool11 : Array CpInfo := pool [(8, .class_ 10), (1, u "java/util/SequencedCollection"), (15, .class_ 27), (0, u "java/lang/Object"), (0, .class_ 29), (0, u "java/util/Collection")] 27

/-- java/util/SequencedCollection -/
def k11 : Class := { plain "java/util/SequencedCollection" (some 0) with
  accessFlags := 1537
  interfaces := #[9]
  cf := some (fileOf pool11 8 #[] #[] 1537 26 #[28] #[])
  fields := #[]
  methods := #[]
  instanceTypes := #[]
  staticTypes := #[]
  resolved := Array.replicate 57 none
  statics := none }

def pool12 : Array CpInfo := pool [(8, .class_ 10), (1, u "java/util/List"), (20, u "(Ljava/lang/Object;)V"), (16, u "<init>"), (11, u "add"), (3, u "(Ljava/lang/Object;)Z"), (10, u "get"), (0, u "(I)Ljava/lang/Object;"), (2, u "size"), (0, u "()I"), (7, u "of"), (2, .class_ 93), (1, u "java/util/ImmutableCollections"), (2, .class_ 97), (0, u "java/util/ImmutableCollections$List12"), (0, .methodref 96 99), (0, .nameAndType 48 31), (0, .methodref 96 101), (0, .nameAndType 48 102), (0, u "(Ljava/lang/Object;Ljava/lang/Object;)V"), (0, .class_ 104), (0, u "java/lang/Object"), (3, u "([Ljava/lang/Object;)Ljava/util/List;"), (0, .methodref 91 110), (0, .nameAndType 111 108), (0, u "listFromArray"), (0, .methodref 91 113), (0, .nameAndType 114 115), (0, u "listCopy"), (0, u "(Ljava/util/Collection;)Ljava/util/List;"), (4, .class_ 121), (0, u "java/util/SequencedCollection"), (112, u "copyOf")] 16

def k12m0 : Method := { name := "size", desc := "()I", sig := { parameters := [], returnType := some .int }, accessFlags := 1025, code := none }
def k12m1 : Method := { name := "add", desc := "(Ljava/lang/Object;)Z", sig := { parameters := [(.object "java/lang/Object")], returnType := some .boolean }, accessFlags := 1025, code := none }
def k12m2 : Method := { name := "get", desc := "(I)Ljava/lang/Object;", sig := { parameters := [.int], returnType := some (.object "java/lang/Object") }, accessFlags := 1025, code := none }
def k12c3 : Code := { maxStack := 5, maxLocals := 2, code := jdk_40_method_47_code, exceptionTable := #[], attributes := #[] }
def k12m3 : Method := { name := "of", desc := "([Ljava/lang/Object;)Ljava/util/List;", sig := { parameters := [(.array (.object "java/lang/Object"))], returnType := some (.object "java/util/List") }, accessFlags := 137, code := some k12c3 }
def k12c4 : Code := { maxStack := 1, maxLocals := 1, code := jdk_40_method_48_code, exceptionTable := #[], attributes := #[] }
def k12m4 : Method := { name := "copyOf", desc := "(Ljava/util/Collection;)Ljava/util/List;", sig := { parameters := [(.object "java/util/Collection")], returnType := some (.object "java/util/List") }, accessFlags := 9, code := some k12c4 }
/-- java/util/List -/
def k12 : Class := { plain "java/util/List" (some 0) with
  accessFlags := 1537
  interfaces := #[11]
  cf := some (fileOf pool12 8 #[] #[{ accessFlags := 1025, nameIndex := 79, descriptorIndex := 80, attributes := #[] }, { accessFlags := 1025, nameIndex := 60, descriptorIndex := 64, attributes := #[] }, { accessFlags := 1025, nameIndex := 75, descriptorIndex := 76, attributes := #[] }, { accessFlags := 137, nameIndex := 88, descriptorIndex := 108, attributes := #[] }, { accessFlags := 9, nameIndex := 234, descriptorIndex := 115, attributes := #[] }] 1537 103 #[120] #[])
  fields := #[]
  methods := #[k12m0, k12m1, k12m2, k12m3, k12m4]
  instanceTypes := #[]
  staticTypes := #[]
  resolved := Array.replicate 251 none
  statics := none }

def pool13 : Array CpInfo := pool [(1, .methodref 2 3), (0, .class_ 4), (0, .nameAndType 5 6), (0, u "java/util/AbstractCollection"), (0, u "<init>"), (0, u "()V"), (0, .fieldref 8 9), (0, .class_ 10), (0, .nameAndType 11 12), (0, u "java/util/AbstractList"), (0, u "modCount"), (0, u "I"), (64, .class_ 78), (0, u "java/util/AbstractList$Itr"), (3, .class_ 83), (0, u "java/util/AbstractList$ListItr"), (9, .class_ 94), (0, u "java/util/AbstractList$RandomAccessSubList"), (3, .class_ 99), (0, u "java/util/AbstractList$SubList"), (33, .class_ 134), (0, u "java/util/List"), (73, .class_ 209), (0, u "java/util/AbstractList$SubList$1"), (0, .class_ 211), (0, u "java/util/AbstractList$RandomAccessSpliterator")] 6

def k13c0 : Code := { maxStack := 2, maxLocals := 1, code := jdk_39_method_1_code, exceptionTable := #[], attributes := #[] }
def k13m0 : Method := { name := "<init>", desc := "()V", sig := { parameters := [], returnType := none }, accessFlags := 4, code := some k13c0 }
/-- java/util/AbstractList -/
def k13 : Class := { plain "java/util/AbstractList" (some 10) with
  accessFlags := 1057
  interfaces := #[12]
  cf := some (fileOf pool13 8 #[.nestMembers #[93, 98, 208, 210, 82, 77]] #[{ accessFlags := 4, nameIndex := 5, descriptorIndex := 6, attributes := #[] }] 1057 2 #[133] #[{ accessFlags := 132, nameIndex := 11, descriptorIndex := 12, attributes := #[] }])
  fields := #[{ name := "modCount", type := .int, accessFlags := 132, slot := 0, constantValue := 0 }]
  methods := #[k13m0]
  instanceTypes := #[.int]
  staticTypes := #[]
  resolved := Array.replicate 218 none
  statics := none }

def pool14 : Array CpInfo := pool [(1, .class_ 2), (0, u "java/util/RandomAccess"), (0, .class_ 4), (0, u "java/lang/Object")] 2

/-- java/util/RandomAccess -/
def k14 : Class := { plain "java/util/RandomAccess" (some 0) with
  accessFlags := 1537
  interfaces := #[]
  cf := some (fileOf pool14 1 #[] #[] 1537 3 #[] #[])
  fields := #[]
  methods := #[]
  instanceTypes := #[]
  staticTypes := #[]
  resolved := Array.replicate 7 none
  statics := none }

def pool15 : Array CpInfo := pool [(1, .class_ 2), (0, u "java/lang/Cloneable"), (0, .class_ 4), (0, u "java/lang/Object")] 2

/-- java/lang/Cloneable -/
def k15 : Class := { plain "java/lang/Cloneable" (some 0) with
  accessFlags := 1537
  interfaces := #[]
  cf := some (fileOf pool15 1 #[] #[] 1537 3 #[] #[])
  fields := #[]
  methods := #[]
  instanceTypes := #[]
  staticTypes := #[]
  resolved := Array.replicate 7 none
  statics := none }

def pool16 : Array CpInfo := pool [(1, .methodref 2 3), (0, .class_ 4), (0, .nameAndType 5 6), (0, u "java/util/AbstractList"), (0, u "<init>"), (0, u "()V"), (0, .class_ 8), (0, u "java/lang/Object"), (0, .fieldref 10 11), (0, .class_ 12), (0, .nameAndType 13 14), (0, u "java/util/ArrayList"), (0, u "elementData"), (0, u "[Ljava/lang/Object;"), (2, u "EMPTY_ELEMENTDATA"), (21, .fieldref 10 40), (0, .nameAndType 41 14), (0, u "DEFAULTCAPACITY_EMPTY_ELEMENTDATA"), (4, u "toArray"), (0, u "()[Ljava/lang/Object;"), (0, .fieldref 10 49), (0, .nameAndType 50 51), (0, u "size"), (0, u "I"), (6, .class_ 60), (1, u "java/util/Arrays"), (0, u "copyOf"), (1, .fieldref 10 64), (0, .nameAndType 65 51), (0, u "modCount"), (0, .methodref 58 67), (0, .nameAndType 61 68), (0, u "([Ljava/lang/Object;I)[Ljava/lang/Object;"), (0, .methodref 10 70), (0, .nameAndType 71 72), (0, u "grow"), (0, u "(I)[Ljava/lang/Object;"), (6, .methodref 80 81), (0, .class_ 82), (0, .nameAndType 83 84), (0, u "java/lang/Math"), (0, u "max"), (0, u "(II)I"), (11, u "(Ljava/lang/Object;)Z"), (21, .methodref 119 120), (0, .class_ 121), (0, .nameAndType 122 84), (0, u "java/util/Objects"), (0, u "checkIndex"), (0, .methodref 10 124), (0, .nameAndType 13 125), (0, u "(I)Ljava/lang/Object;"), (3, .methodref 10 130), (0, .nameAndType 71 47), (0, .methodref 10 132), (0, .nameAndType 133 134), (0, u "add"), (0, u "(Ljava/lang/Object;[Ljava/lang/Object;I)V"), (13, .class_ 149), (0, u "java/util/List"), (23, u "()Z"), (12, u "()I"), (75, .class_ 263), (0, u "java/util/ArrayList$ListItr"), (3, .class_ 268), (0, u "java/util/ArrayList$Itr"), (7, .class_ 277), (0, u "java/util/ArrayList$SubList"), (12, .class_ 291), (0, u "java/util/ArrayList$ArrayListSpliterator"), (37, .class_ 330), (0, u "java/util/RandomAccess"), (0, .class_ 332), (0, u "java/lang/Cloneable"), (0, .class_ 334), (0, u "java/io/Serializable"), (0, u "serialVersionUID"), (0, u "J"), (3, u "DEFAULT_CAPACITY"), (22, u "isEmpty"), (17, u "get"), (118, .class_ 501), (0, u "java/util/ArrayList$SubList$2"), (0, .class_ 503), (0, u "java/util/ArrayList$SubList$1")] 5

def k16c0 : Code := { maxStack := 2, maxLocals := 1, code := jdk_38_method_2_code, exceptionTable := #[], attributes := #[] }
def k16m0 : Method := { name := "<init>", desc := "()V", sig := { parameters := [], returnType := none }, accessFlags := 1, code := some k16c0 }
def k16c1 : Code := { maxStack := 4, maxLocals := 4, code := jdk_38_method_6_code, exceptionTable := #[], attributes := #[] }
def k16m1 : Method := { name := "grow", desc := "(I)[Ljava/lang/Object;", sig := { parameters := [.int], returnType := some (.array (.object "java/lang/Object")) }, accessFlags := 2, code := some k16c1 }
def k16c2 : Code := { maxStack := 3, maxLocals := 1, code := jdk_38_method_7_code, exceptionTable := #[], attributes := #[] }
def k16m2 : Method := { name := "grow", desc := "()[Ljava/lang/Object;", sig := { parameters := [], returnType := some (.array (.object "java/lang/Object")) }, accessFlags := 2, code := some k16c2 }
def k16c3 : Code := { maxStack := 1, maxLocals := 1, code := jdk_38_method_8_code, exceptionTable := #[], attributes := #[] }
def k16m3 : Method := { name := "size", desc := "()I", sig := { parameters := [], returnType := some .int }, accessFlags := 1, code := some k16c3 }
def k16c4 : Code := { maxStack := 1, maxLocals := 1, code := jdk_38_method_9_code, exceptionTable := #[], attributes := #[] }
def k16m4 : Method := { name := "isEmpty", desc := "()Z", sig := { parameters := [], returnType := some .boolean }, accessFlags := 1, code := some k16c4 }
def k16c5 : Code := { maxStack := 2, maxLocals := 1, code := jdk_38_method_16_code, exceptionTable := #[], attributes := #[] }
def k16m5 : Method := { name := "toArray", desc := "()[Ljava/lang/Object;", sig := { parameters := [], returnType := some (.array (.object "java/lang/Object")) }, accessFlags := 1, code := some k16c5 }
def k16c6 : Code := { maxStack := 2, maxLocals := 2, code := jdk_38_method_18_code, exceptionTable := #[], attributes := #[] }
def k16m6 : Method := { name := "elementData", desc := "(I)Ljava/lang/Object;", sig := { parameters := [.int], returnType := some (.object "java/lang/Object") }, accessFlags := 0, code := some k16c6 }
def k16c7 : Code := { maxStack := 2, maxLocals := 2, code := jdk_38_method_20_code, exceptionTable := #[], attributes := #[] }
def k16m7 : Method := { name := "get", desc := "(I)Ljava/lang/Object;", sig := { parameters := [.int], returnType := some (.object "java/lang/Object") }, accessFlags := 1, code := some k16c7 }
def k16c8 : Code := { maxStack := 3, maxLocals := 4, code := jdk_38_method_24_code, exceptionTable := #[], attributes := #[] }
def k16m8 : Method := { name := "add", desc := "(Ljava/lang/Object;[Ljava/lang/Object;I)V", sig := { parameters := [(.object "java/lang/Object"), (.array (.object "java/lang/Object")), .int], returnType := none }, accessFlags := 2, code := some k16c8 }
def k16c9 : Code := { maxStack := 4, maxLocals := 2, code := jdk_38_method_25_code, exceptionTable := #[], attributes := #[] }
def k16m9 : Method := { name := "add", desc := "(Ljava/lang/Object;)Z", sig := { parameters := [(.object "java/lang/Object")], returnType := some .boolean }, accessFlags := 1, code := some k16c9 }
/-- java/util/ArrayList -/
def k16 : Class := { plain "java/util/ArrayList" (some 13) with
  accessFlags := 33
  interfaces := #[12, 14, 15, 2]
  cf := some (fileOf pool16 10 #[.nestMembers #[290, 276, 500, 502, 262, 267]] #[{ accessFlags := 1, nameIndex := 5, descriptorIndex := 6, attributes := #[] }, { accessFlags := 2, nameIndex := 71, descriptorIndex := 72, attributes := #[] }, { accessFlags := 2, nameIndex := 71, descriptorIndex := 47, attributes := #[] }, { accessFlags := 1, nameIndex := 50, descriptorIndex := 186, attributes := #[] }, { accessFlags := 1, nameIndex := 363, descriptorIndex := 173, attributes := #[] }, { accessFlags := 1, nameIndex := 46, descriptorIndex := 47, attributes := #[] }, { accessFlags := 0, nameIndex := 13, descriptorIndex := 125, attributes := #[] }, { accessFlags := 1, nameIndex := 381, descriptorIndex := 125, attributes := #[] }, { accessFlags := 2, nameIndex := 133, descriptorIndex := 134, attributes := #[] }, { accessFlags := 1, nameIndex := 133, descriptorIndex := 96, attributes := #[] }] 33 2 #[148, 329, 331, 333] #[{ accessFlags := 26, nameIndex := 335, descriptorIndex := 336, attributes := #[] }, { accessFlags := 26, nameIndex := 340, descriptorIndex := 51, attributes := #[] }, { accessFlags := 26, nameIndex := 17, descriptorIndex := 14, attributes := #[] }, { accessFlags := 26, nameIndex := 41, descriptorIndex := 14, attributes := #[] }, { accessFlags := 128, nameIndex := 13, descriptorIndex := 14, attributes := #[] }, { accessFlags := 2, nameIndex := 50, descriptorIndex := 51, attributes := #[] }])
  fields := #[{ name := "serialVersionUID", type := .long, accessFlags := 26, slot := 0, constantValue := 0 }, { name := "DEFAULT_CAPACITY", type := .int, accessFlags := 26, slot := 1, constantValue := 0 }, { name := "EMPTY_ELEMENTDATA", type := (.array (.object "java/lang/Object")), accessFlags := 26, slot := 2, constantValue := 0 }, { name := "DEFAULTCAPACITY_EMPTY_ELEMENTDATA", type := (.array (.object "java/lang/Object")), accessFlags := 26, slot := 3, constantValue := 0 }, { name := "elementData", type := (.array (.object "java/lang/Object")), accessFlags := 128, slot := 1, constantValue := 0 }, { name := "size", type := .int, accessFlags := 2, slot := 2, constantValue := 0 }]
  methods := #[k16m0, k16m1, k16m2, k16m3, k16m4, k16m5, k16m6, k16m7, k16m8, k16m9]
  instanceTypes := #[.int, (.array (.object "java/lang/Object")), .int]
  staticTypes := #[.long, .int, (.array (.object "java/lang/Object")), (.array (.object "java/lang/Object"))]
  resolved := Array.replicate 509 none
  statics := some 1 }

def pool17 : Array CpInfo := pool [(1, .class_ 2), (0, u "java/lang/Math"), (1, .class_ 6), (1, u "java/lang/Object"), (0, u "<init>"), (0, u "()V"), (89, .class_ 100), (1, u "java/lang/Math$RandomNumberGeneratorHolder"), (71, u "negativeZeroFloatBits"), (0, u "J"), (2, u "negativeZeroDoubleBits"), (21, u "max"), (2, u "min"), (43, u "$assertionsDisabled"), (0, u "Z"), (88, u "(II)I"), (2, u "twoToTheDoubleScaleDown"), (0, u "D"), (4, u "twoToTheDoubleScaleUp"), (9, u "E"), (3, u "PI"), (2, u "TAU"), (2, u "DEGREES_TO_RADIANS"), (0, u "RADIANS_TO_DEGREES")] 94

def k17m0 : Method := { name := "<init>", desc := "()V", sig := { parameters := [], returnType := none }, accessFlags := 2, code := none }
def k17c1 : Code := { maxStack := 2, maxLocals := 2, code := jdk_29_method_65_code, exceptionTable := #[], attributes := #[] }
def k17m1 : Method := { name := "max", desc := "(II)I", sig := { parameters := [.int, .int], returnType := some .int }, accessFlags := 9, code := some k17c1 }
def k17c2 : Code := { maxStack := 2, maxLocals := 2, code := jdk_29_method_69_code, exceptionTable := #[], attributes := #[] }
def k17m2 : Method := { name := "min", desc := "(II)I", sig := { parameters := [.int, .int], returnType := some .int }, accessFlags := 9, code := some k17c2 }
/-- java/lang/Math -/
def k17 : Class := { plain "java/lang/Math" (some 0) with
  accessFlags := 49
  interfaces := #[]
  cf := some (fileOf pool17 1 #[.nestMembers #[98]] #[{ accessFlags := 2, nameIndex := 7, descriptorIndex := 8, attributes := #[] }, { accessFlags := 9, nameIndex := 198, descriptorIndex := 335, attributes := #[] }, { accessFlags := 9, nameIndex := 201, descriptorIndex := 335, attributes := #[] }] 49 4 #[] #[{ accessFlags := 25, nameIndex := 354, descriptorIndex := 339, attributes := #[] }, { accessFlags := 25, nameIndex := 358, descriptorIndex := 339, attributes := #[] }, { accessFlags := 25, nameIndex := 361, descriptorIndex := 339, attributes := #[] }, { accessFlags := 26, nameIndex := 364, descriptorIndex := 339, attributes := #[] }, { accessFlags := 26, nameIndex := 365, descriptorIndex := 339, attributes := #[] }, { accessFlags := 26, nameIndex := 172, descriptorIndex := 173, attributes := #[] }, { accessFlags := 26, nameIndex := 176, descriptorIndex := 173, attributes := #[] }, { accessFlags := 8, nameIndex := 344, descriptorIndex := 339, attributes := #[] }, { accessFlags := 8, nameIndex := 338, descriptorIndex := 339, attributes := #[] }, { accessFlags := 4120, nameIndex := 245, descriptorIndex := 246, attributes := #[] }])
  fields := #[{ name := "E", type := .double, accessFlags := 25, slot := 0, constantValue := 0 }, { name := "PI", type := .double, accessFlags := 25, slot := 1, constantValue := 0 }, { name := "TAU", type := .double, accessFlags := 25, slot := 2, constantValue := 0 }, { name := "DEGREES_TO_RADIANS", type := .double, accessFlags := 26, slot := 3, constantValue := 0 }, { name := "RADIANS_TO_DEGREES", type := .double, accessFlags := 26, slot := 4, constantValue := 0 }, { name := "negativeZeroFloatBits", type := .long, accessFlags := 26, slot := 5, constantValue := 0 }, { name := "negativeZeroDoubleBits", type := .long, accessFlags := 26, slot := 6, constantValue := 0 }, { name := "twoToTheDoubleScaleUp", type := .double, accessFlags := 8, slot := 7, constantValue := 0 }, { name := "twoToTheDoubleScaleDown", type := .double, accessFlags := 8, slot := 8, constantValue := 0 }, { name := "$assertionsDisabled", type := .boolean, accessFlags := 4120, slot := 9, constantValue := 0 }]
  methods := #[k17m0, k17m1, k17m2]
  instanceTypes := #[]
  staticTypes := #[.double, .double, .double, .double, .double, .long, .long, .double, .double, .boolean]
  resolved := Array.replicate 460 none
  statics := none }

def pool18 : Array CpInfo := pool [(1, .methodref 2 3), (0, .class_ 4), (0, .nameAndType 5 6), (0, u "java/lang/Object"), (0, u "<init>"), (0, u "()V"), (1, .class_ 10), (1, u "java/lang/Number"), (2, .class_ 14), (0, u "java/io/Serializable"), (0, u "serialVersionUID"), (0, u "J")] 20

def k18c0 : Code := { maxStack := 1, maxLocals := 1, code := jdk_18_method_1_code, exceptionTable := #[], attributes := #[] }
def k18m0 : Method := { name := "<init>", desc := "()V", sig := { parameters := [], returnType := none }, accessFlags := 1, code := some k18c0 }
/-- java/lang/Number -/
def k18 : Class := { plain "java/lang/Number" (some 0) with
  accessFlags := 1057
  interfaces := #[2]
  cf := some (fileOf pool18 8 #[] #[{ accessFlags := 1, nameIndex := 5, descriptorIndex := 6, attributes := #[] }] 1057 2 #[13] #[{ accessFlags := 26, nameIndex := 15, descriptorIndex := 16, attributes := #[] }])
  fields := #[{ name := "serialVersionUID", type := .long, accessFlags := 26, slot := 0, constantValue := 0 }]
  methods := #[k18m0]
  instanceTypes := #[]
  staticTypes := #[.long]
  resolved := Array.replicate 37 none
  statics := none }

def pool19 : Array CpInfo := pool [(1, .class_ 2), (0, u "java/lang/Double"), (17, u "<init>"), (84, .methodref 1 106), (0, .nameAndType 20 107), (0, u "(D)V"), (5, .methodref 114 115), (0, .class_ 116), (0, .nameAndType 20 117), (0, u "java/lang/Number"), (0, u "()V"), (0, .fieldref 1 119), (0, .nameAndType 120 121), (0, u "value"), (0, u "D"), (51, u "TYPE"), (0, u "Ljava/lang/Class;"), (0, .class_ 176), (0, u "java/lang/Comparable"), (0, .class_ 178), (0, u "java/lang/constant/Constable"), (0, .class_ 180), (0, u "java/lang/constant/ConstantDesc"), (0, u "POSITIVE_INFINITY"), (3, u "NEGATIVE_INFINITY"), (2, u "NaN"), (2, u "MAX_VALUE"), (0, u "MIN_NORMAL"), (0, u "MIN_VALUE"), (2, u "SIZE"), (0, u "I"), (1, u "PRECISION"), (1, u "MAX_EXPONENT"), (1, u "MIN_EXPONENT"), (1, u "BYTES"), (3, u "serialVersionUID"), (0, u "J"), (14, u "valueOf"), (5, u "(D)Ljava/lang/Double;"), (23, u "doubleValue"), (0, u "()D")] 33

def k19c0 : Code := { maxStack := 4, maxLocals := 2, code := jdk_117_method_4_code, exceptionTable := #[], attributes := #[] }
def k19m0 : Method := { name := "valueOf", desc := "(D)Ljava/lang/Double;", sig := { parameters := [.double], returnType := some (.object "java/lang/Double") }, accessFlags := 9, code := some k19c0 }
def k19c1 : Code := { maxStack := 3, maxLocals := 3, code := jdk_117_method_9_code, exceptionTable := #[], attributes := #[] }
def k19m1 : Method := { name := "<init>", desc := "(D)V", sig := { parameters := [.double], returnType := none }, accessFlags := 1, code := some k19c1 }
def k19c2 : Code := { maxStack := 2, maxLocals := 1, code := jdk_117_method_19_code, exceptionTable := #[], attributes := #[] }
def k19m2 : Method := { name := "doubleValue", desc := "()D", sig := { parameters := [], returnType := some .double }, accessFlags := 1, code := some k19c2 }
/-- java/lang/Double -/
def k19 : Class := { plain "java/lang/Double" (some 18) with
  accessFlags := 49
  interfaces := #[3, 5, 6]
  cf := some (fileOf pool19 1 #[] #[{ accessFlags := 9, nameIndex := 225, descriptorIndex := 231, attributes := #[] }, { accessFlags := 1, nameIndex := 20, descriptorIndex := 107, attributes := #[] }, { accessFlags := 1, nameIndex := 255, descriptorIndex := 256, attributes := #[] }] 49 114 #[175, 177, 179] #[{ accessFlags := 25, nameIndex := 181, descriptorIndex := 121, attributes := #[] }, { accessFlags := 25, nameIndex := 185, descriptorIndex := 121, attributes := #[] }, { accessFlags := 25, nameIndex := 188, descriptorIndex := 121, attributes := #[] }, { accessFlags := 25, nameIndex := 191, descriptorIndex := 121, attributes := #[] }, { accessFlags := 25, nameIndex := 192, descriptorIndex := 121, attributes := #[] }, { accessFlags := 25, nameIndex := 193, descriptorIndex := 121, attributes := #[] }, { accessFlags := 25, nameIndex := 196, descriptorIndex := 197, attributes := #[] }, { accessFlags := 25, nameIndex := 199, descriptorIndex := 197, attributes := #[] }, { accessFlags := 25, nameIndex := 201, descriptorIndex := 197, attributes := #[] }, { accessFlags := 25, nameIndex := 203, descriptorIndex := 197, attributes := #[] }, { accessFlags := 25, nameIndex := 205, descriptorIndex := 197, attributes := #[] }, { accessFlags := 25, nameIndex := 173, descriptorIndex := 174, attributes := #[] }, { accessFlags := 18, nameIndex := 120, descriptorIndex := 121, attributes := #[] }, { accessFlags := 26, nameIndex := 209, descriptorIndex := 210, attributes := #[] }])
  fields := #[{ name := "POSITIVE_INFINITY", type := .double, accessFlags := 25, slot := 0, constantValue := 0 }, { name := "NEGATIVE_INFINITY", type := .double, accessFlags := 25, slot := 1, constantValue := 0 }, { name := "NaN", type := .double, accessFlags := 25, slot := 2, constantValue := 0 }, { name := "MAX_VALUE", type := .double, accessFlags := 25, slot := 3, constantValue := 0 }, { name := "MIN_NORMAL", type := .double, accessFlags := 25, slot := 4, constantValue := 0 }, { name := "MIN_VALUE", type := .double, accessFlags := 25, slot := 5, constantValue := 0 }, { name := "SIZE", type := .int, accessFlags := 25, slot := 6, constantValue := 0 }, { name := "PRECISION", type := .int, accessFlags := 25, slot := 7, constantValue := 0 }, { name := "MAX_EXPONENT", type := .int, accessFlags := 25, slot := 8, constantValue := 0 }, { name := "MIN_EXPONENT", type := .int, accessFlags := 25, slot := 9, constantValue := 0 }, { name := "BYTES", type := .int, accessFlags := 25, slot := 10, constantValue := 0 }, { name := "TYPE", type := (.object "java/lang/Class"), accessFlags := 25, slot := 11, constantValue := 0 }, { name := "value", type := .double, accessFlags := 18, slot := 0, constantValue := 0 }, { name := "serialVersionUID", type := .long, accessFlags := 26, slot := 12, constantValue := 0 }]
  methods := #[k19m0, k19m1, k19m2]
  instanceTypes := #[.double]
  staticTypes := #[.double, .double, .double, .double, .double, .double, .int, .int, .int, .int, .int, (.object "java/lang/Class"), .long]
  resolved := Array.replicate 290 none
  statics := none }

def pool20 : Array CpInfo := pool [(4, .class_ 6), (1, u "java/lang/Object"), (0, u "<init>"), (0, u "()V"), (5, .class_ 16), (1, u "java/lang/StringLatin1"), (73, u "canEncode"), (14, u "(C)Z"), (15, u "$assertionsDisabled"), (0, u "Z"), (98, .class_ 223), (1, u "java/lang/StringLatin1$LinesSpliterator"), (156, u "toBytes"), (1, u "(C)[B"), (7, .class_ 391), (0, u "java/lang/StringLatin1$CharsSpliterator")] 3

def k20m0 : Method := { name := "<init>", desc := "()V", sig := { parameters := [], returnType := none }, accessFlags := 0, code := none }
def k20c1 : Code := { maxStack := 2, maxLocals := 1, code := jdk_43_method_3_code, exceptionTable := #[], attributes := #[] }
def k20m1 : Method := { name := "canEncode", desc := "(C)Z", sig := { parameters := [.char], returnType := some .boolean }, accessFlags := 9, code := some k20c1 }
def k20c2 : Code := { maxStack := 4, maxLocals := 1, code := jdk_43_method_46_code, exceptionTable := #[], attributes := #[] }
def k20m2 : Method := { name := "toBytes", desc := "(C)[B", sig := { parameters := [.char], returnType := some (.array .byte) }, accessFlags := 9, code := some k20c2 }
/-- java/lang/StringLatin1 -/
def k20 : Class := { plain "java/lang/StringLatin1" (some 0) with
  accessFlags := 48
  interfaces := #[]
  cf := some (fileOf pool20 14 #[.nestMembers #[390, 221]] #[{ accessFlags := 0, nameIndex := 7, descriptorIndex := 8, attributes := #[] }, { accessFlags := 9, nameIndex := 90, descriptorIndex := 105, attributes := #[] }, { accessFlags := 9, nameIndex := 380, descriptorIndex := 382, attributes := #[] }] 48 4 #[] #[{ accessFlags := 4120, nameIndex := 121, descriptorIndex := 122, attributes := #[] }])
  fields := #[{ name := "$assertionsDisabled", type := .boolean, accessFlags := 4120, slot := 0, constantValue := 0 }]
  methods := #[k20m0, k20m1, k20m2]
  instanceTypes := #[]
  staticTypes := #[.boolean]
  resolved := Array.replicate 395 none
  statics := none }

def pool21 : Array CpInfo := pool [(1, .methodref 2 3), (0, .class_ 4), (0, .nameAndType 5 6), (0, u "java/lang/Object"), (0, u "<init>"), (0, u "()V"), (0, .interfaceMethodref 8 9), (0, .class_ 10), (0, .nameAndType 11 12), (0, u "java/util/List"), (0, u "size"), (0, u "()I"), (0, .interfaceMethodref 8 14), (0, .nameAndType 15 16), (0, u "get"), (0, u "(I)Ljava/lang/Object;"), (0, .class_ 18), (0, u "java/lang/Double"), (0, .methodref 17 20), (0, .nameAndType 21 22), (0, u "doubleValue"), (0, u "()D"), (0, .fieldref 24 25), (0, .class_ 26), (0, .nameAndType 27 28), (0, u "com/example/level_slate/levelslate/TopicCandidates"), (0, u "topic"), (0, u "Ljava/lang/String;"), (0, .interfaceMethodref 8 30), (0, .nameAndType 31 32), (0, u "copyOf"), (0, u "(Ljava/util/Collection;)Ljava/util/List;"), (0, .fieldref 24 34), (0, .nameAndType 35 36), (0, u "candidates"), (0, u "Ljava/util/List;"), (0, .fieldref 24 38), (0, .nameAndType 39 40), (0, u "runScores"), (0, u "[D"), (0, .class_ 42), (0, u "java/lang/String"), (30, u "(Ljava/lang/String;Ljava/util/List;Ljava/util/List;)V"), (8, u "getCandidate"), (0, u "(I)Ljava/lang/String;")] 6

def k21c0 : Code := { maxStack := 4, maxLocals := 6, code := prog_14_method_1_code, exceptionTable := #[], attributes := #[] }
def k21m0 : Method := { name := "<init>", desc := "(Ljava/lang/String;Ljava/util/List;Ljava/util/List;)V", sig := { parameters := [(.object "java/lang/String"), (.object "java/util/List"), (.object "java/util/List")], returnType := none }, accessFlags := 0, code := some k21c0 }
def k21c1 : Code := { maxStack := 2, maxLocals := 2, code := prog_14_method_4_code, exceptionTable := #[], attributes := #[] }
def k21m1 : Method := { name := "getCandidate", desc := "(I)Ljava/lang/String;", sig := { parameters := [.int], returnType := some (.object "java/lang/String") }, accessFlags := 16, code := some k21c1 }
/-- com/example/level_slate/levelslate/TopicCandidates -/
def k21 : Class := { plain "com/example/level_slate/levelslate/TopicCandidates" (some 0) with
  accessFlags := 32
  interfaces := #[]
  cf := some (fileOf pool21 24 #[] #[{ accessFlags := 0, nameIndex := 5, descriptorIndex := 73, attributes := #[] }, { accessFlags := 16, nameIndex := 82, descriptorIndex := 83, attributes := #[] }] 32 2 #[] #[{ accessFlags := 18, nameIndex := 27, descriptorIndex := 28, attributes := #[] }, { accessFlags := 18, nameIndex := 35, descriptorIndex := 36, attributes := #[] }, { accessFlags := 18, nameIndex := 39, descriptorIndex := 40, attributes := #[] }])
  fields := #[{ name := "topic", type := (.object "java/lang/String"), accessFlags := 18, slot := 0, constantValue := 0 }, { name := "candidates", type := (.object "java/util/List"), accessFlags := 18, slot := 1, constantValue := 0 }, { name := "runScores", type := (.array .double), accessFlags := 18, slot := 2, constantValue := 0 }]
  methods := #[k21m0, k21m1]
  instanceTypes := #[(.object "java/lang/String"), (.object "java/util/List"), (.array .double)]
  staticTypes := #[]
  resolved := Array.replicate 90 none
  statics := none }

def pool22 : Array CpInfo := pool [(2, .class_ 4), (1, u "java/lang/Object"), (0, u "<init>"), (0, u "()V"), (35, .class_ 44), (1, u "java/util/Objects"), (0, u "requireNonNull"), (0, u "(Ljava/lang/Object;)Ljava/lang/Object;"), (58, .methodref 106 107), (0, .class_ 108), (0, .nameAndType 109 110), (0, u "jdk/internal/util/Preconditions"), (0, u "checkIndex"), (0, u "(IILjava/util/function/BiFunction;)I"), (60, u "(II)I")] 12

def k22m0 : Method := { name := "<init>", desc := "()V", sig := { parameters := [], returnType := none }, accessFlags := 2, code := none }
def k22c1 : Code := { maxStack := 2, maxLocals := 1, code := jdk_31_method_10_code, exceptionTable := #[], attributes := #[] }
def k22m1 : Method := { name := "requireNonNull", desc := "(Ljava/lang/Object;)Ljava/lang/Object;", sig := { parameters := [(.object "java/lang/Object")], returnType := some (.object "java/lang/Object") }, accessFlags := 9, code := some k22c1 }
def k22c2 : Code := { maxStack := 3, maxLocals := 2, code := jdk_31_method_17_code, exceptionTable := #[], attributes := #[] }
def k22m2 : Method := { name := "checkIndex", desc := "(II)I", sig := { parameters := [.int, .int], returnType := some .int }, accessFlags := 9, code := some k22c2 }
/-- java/util/Objects -/
def k22 : Class := { plain "java/util/Objects" (some 0) with
  accessFlags := 49
  interfaces := #[]
  cf := some (fileOf pool22 42 #[] #[{ accessFlags := 2, nameIndex := 5, descriptorIndex := 6, attributes := #[] }, { accessFlags := 9, nameIndex := 45, descriptorIndex := 46, attributes := #[] }, { accessFlags := 9, nameIndex := 109, descriptorIndex := 171, attributes := #[] }] 49 2 #[] #[])
  fields := #[]
  methods := #[k22m0, k22m1, k22m2]
  instanceTypes := #[]
  staticTypes := #[]
  resolved := Array.replicate 184 none
  statics := none }

def pool23 : Array CpInfo := pool [(2, .class_ 4), (1, u "java/lang/Object"), (0, u "<init>"), (0, u "()V"), (17, .class_ 26), (1, u "jdk/internal/util/Preconditions"), (6, u "checkIndex"), (21, .class_ 56), (0, u "jdk/internal/util/Preconditions$4"), (57, .class_ 115), (0, u "jdk/internal/util/Preconditions$1"), (7, u "SIOOBE_FORMATTER"), (0, u "Ljava/util/function/BiFunction;"), (0, .class_ 126), (0, u "jdk/internal/util/Preconditions$2"), (3, u "AIOOBE_FORMATTER"), (0, .class_ 132), (0, u "jdk/internal/util/Preconditions$3"), (3, u "IOOBE_FORMATTER"), (41, u "(IILjava/util/function/BiFunction;)I")] 15

def k23m0 : Method := { name := "<init>", desc := "()V", sig := { parameters := [], returnType := none }, accessFlags := 1, code := none }
def k23c1 : Code := { maxStack := 3, maxLocals := 3, code := jdk_41_method_11_code, exceptionTable := #[], attributes := #[] }
def k23m1 : Method := { name := "checkIndex", desc := "(IILjava/util/function/BiFunction;)I", sig := { parameters := [.int, .int, (.object "java/util/function/BiFunction")], returnType := some .int }, accessFlags := 9, code := some k23c1 }
/-- jdk/internal/util/Preconditions -/
def k23 : Class := { plain "jdk/internal/util/Preconditions" (some 0) with
  accessFlags := 33
  interfaces := #[]
  cf := some (fileOf pool23 24 #[.nestMembers #[55, 131, 125, 114]] #[{ accessFlags := 1, nameIndex := 5, descriptorIndex := 6, attributes := #[] }, { accessFlags := 9, nameIndex := 33, descriptorIndex := 178, attributes := #[] }] 33 2 #[] #[{ accessFlags := 25, nameIndex := 123, descriptorIndex := 124, attributes := #[] }, { accessFlags := 25, nameIndex := 130, descriptorIndex := 124, attributes := #[] }, { accessFlags := 25, nameIndex := 136, descriptorIndex := 124, attributes := #[] }])
  fields := #[{ name := "SIOOBE_FORMATTER", type := (.object "java/util/function/BiFunction"), accessFlags := 25, slot := 0, constantValue := 0 }, { name := "AIOOBE_FORMATTER", type := (.object "java/util/function/BiFunction"), accessFlags := 25, slot := 1, constantValue := 0 }, { name := "IOOBE_FORMATTER", type := (.object "java/util/function/BiFunction"), accessFlags := 25, slot := 2, constantValue := 0 }]
  methods := #[k23m0, k23m1]
  instanceTypes := #[]
  staticTypes := #[(.object "java/util/function/BiFunction"), (.object "java/util/function/BiFunction"), (.object "java/util/function/BiFunction")]
  resolved := Array.replicate 194 none
  statics := some 2 }

def pool24 : Array CpInfo := pool [(2, .class_ 4), (1, u "java/lang/Object"), (0, u "<init>"), (0, u "()V"), (3, .class_ 11), (0, u "java/util/ImmutableCollections$List12"), (0, .class_ 13), (0, u "java/util/ImmutableCollections$ListN"), (3, u "Z"), (0, .class_ 19), (0, u "java/util/List"), (0, .interfaceMethodref 21 22), (0, .class_ 23), (0, .nameAndType 24 25), (0, u "java/util/Collection"), (0, u "isEmpty"), (0, u "()Z"), (2, u "of"), (1, .interfaceMethodref 21 31), (0, .nameAndType 32 33), (0, u "toArray"), (0, u "()[Ljava/lang/Object;"), (0, .interfaceMethodref 18 35), (0, .nameAndType 28 36), (0, u "([Ljava/lang/Object;)Ljava/util/List;"), (0, .methodref 38 39), (0, .class_ 40), (0, .nameAndType 41 42), (0, u "java/util/Objects"), (0, u "requireNonNull"), (0, u "(Ljava/lang/Object;)Ljava/lang/Object;"), (0, .methodref 12 44), (0, .nameAndType 5 45), (0, u "([Ljava/lang/Object;Z)V"), (1, .class_ 49), (1, u "java/util/ImmutableCollections"), (0, u "$assertionsDisabled"), (5, u "[Ljava/lang/Object;"), (5, u "EMPTY_LIST"), (0, u "Ljava/util/ImmutableCollections$ListN;"), (8, u "EMPTY_LIST_NULLS"), (22, u "SALT32L"), (0, u "J"), (2, u "REVERSE"), (6, u "archivedObjects"), (2, u "EMPTY"), (0, u "Ljava/lang/Object;"), (0, .class_ 112), (0, u "java/util/ImmutableCollections$SetN"), (5, u "EMPTY_SET"), (0, u "Ljava/util/ImmutableCollections$SetN;"), (0, .class_ 121), (0, u "java/util/ImmutableCollections$MapN"), (3, u "EMPTY_MAP"), (0, u "Ljava/util/ImmutableCollections$MapN;"), (4, u "EXPAND_FACTOR"), (0, u "I"), (9, u "listCopy"), (0, u "(Ljava/util/Collection;)Ljava/util/List;"), (7, u "listFromArray"), (17, .class_ 170), (0, u "java/util/ImmutableCollections$MapN$MapNIterator"), (0, .class_ 172), (0, u "java/util/ImmutableCollections$MapN$1"), (0, .class_ 174), (0, u "java/util/ImmutableCollections$Map1"), (0, .class_ 176), (0, u "java/util/ImmutableCollections$AbstractImmutableMap"), (0, .class_ 178), (0, u "java/util/ImmutableCollections$SetN$SetNIterator"), (0, .class_ 180), (0, u "java/util/ImmutableCollections$Set12"), (0, .class_ 182), (0, u "java/util/ImmutableCollections$Set12$1"), (0, .class_ 184), (0, u "java/util/ImmutableCollections$AbstractImmutableSet"), (0, .class_ 186), (0, u "java/util/ImmutableCollections$SubList"), (0, .class_ 188), (0, u "java/util/ImmutableCollections$ListItr"), (0, .class_ 190), (0, u "java/util/ImmutableCollections$AbstractImmutableList"), (0, .class_ 192), (0, u "java/util/ImmutableCollections$AbstractImmutableCollection"), (0, .class_ 194), (0, u "java/util/ImmutableCollections$Access"), (0, .class_ 196), (0, u "java/util/ImmutableCollections$Access$1")] 16

def k24m0 : Method := { name := "<init>", desc := "()V", sig := { parameters := [], returnType := none }, accessFlags := 2, code := none }
def k24c1 : Code := { maxStack := 1, maxLocals := 2, code := jdk_56_method_3_code, exceptionTable := #[], attributes := #[] }
def k24m1 : Method := { name := "listCopy", desc := "(Ljava/util/Collection;)Ljava/util/List;", sig := { parameters := [(.object "java/util/Collection")], returnType := some (.object "java/util/List") }, accessFlags := 8, code := some k24c1 }
def k24c2 : Code := { maxStack := 4, maxLocals := 3, code := jdk_56_method_4_code, exceptionTable := #[], attributes := #[] }
def k24m2 : Method := { name := "listFromArray", desc := "([Ljava/lang/Object;)Ljava/util/List;", sig := { parameters := [(.array (.object "java/lang/Object"))], returnType := some (.object "java/util/List") }, accessFlags := 136, code := some k24c2 }
/-- java/util/ImmutableCollections -/
def k24 : Class := { plain "java/util/ImmutableCollections" (some 0) with
  accessFlags := 32
  interfaces := #[]
  cf := some (fileOf pool24 47 #[.nestMembers #[120, 169, 171, 173, 175, 111, 177, 179, 181, 183, 12, 10, 185, 187, 189, 191, 193, 195]] #[{ accessFlags := 2, nameIndex := 5, descriptorIndex := 6, attributes := #[] }, { accessFlags := 8, nameIndex := 142, descriptorIndex := 143, attributes := #[] }, { accessFlags := 136, nameIndex := 151, descriptorIndex := 36, attributes := #[] }] 32 2 #[] #[{ accessFlags := 26, nameIndex := 95, descriptorIndex := 96, attributes := #[] }, { accessFlags := 26, nameIndex := 99, descriptorIndex := 17, attributes := #[] }, { accessFlags := 10, nameIndex := 106, descriptorIndex := 56, attributes := #[] }, { accessFlags := 26, nameIndex := 109, descriptorIndex := 110, attributes := #[] }, { accessFlags := 24, nameIndex := 62, descriptorIndex := 63, attributes := #[] }, { accessFlags := 24, nameIndex := 72, descriptorIndex := 63, attributes := #[] }, { accessFlags := 24, nameIndex := 118, descriptorIndex := 119, attributes := #[] }, { accessFlags := 24, nameIndex := 125, descriptorIndex := 126, attributes := #[] }, { accessFlags := 24, nameIndex := 131, descriptorIndex := 132, attributes := #[] }, { accessFlags := 4120, nameIndex := 50, descriptorIndex := 17, attributes := #[] }])
  fields := #[{ name := "SALT32L", type := .long, accessFlags := 26, slot := 0, constantValue := 0 }, { name := "REVERSE", type := .boolean, accessFlags := 26, slot := 1, constantValue := 0 }, { name := "archivedObjects", type := (.array (.object "java/lang/Object")), accessFlags := 10, slot := 2, constantValue := 0 }, { name := "EMPTY", type := (.object "java/lang/Object"), accessFlags := 26, slot := 3, constantValue := 0 }, { name := "EMPTY_LIST", type := (.object "java/util/ImmutableCollections$ListN"), accessFlags := 24, slot := 4, constantValue := 0 }, { name := "EMPTY_LIST_NULLS", type := (.object "java/util/ImmutableCollections$ListN"), accessFlags := 24, slot := 5, constantValue := 0 }, { name := "EMPTY_SET", type := (.object "java/util/ImmutableCollections$SetN"), accessFlags := 24, slot := 6, constantValue := 0 }, { name := "EMPTY_MAP", type := (.object "java/util/ImmutableCollections$MapN"), accessFlags := 24, slot := 7, constantValue := 0 }, { name := "EXPAND_FACTOR", type := .int, accessFlags := 24, slot := 8, constantValue := 0 }, { name := "$assertionsDisabled", type := .boolean, accessFlags := 4120, slot := 9, constantValue := 0 }]
  methods := #[k24m0, k24m1, k24m2]
  instanceTypes := #[]
  staticTypes := #[.long, .boolean, (.array (.object "java/lang/Object")), (.object "java/lang/Object"), (.object "java/util/ImmutableCollections$ListN"), (.object "java/util/ImmutableCollections$ListN"), (.object "java/util/ImmutableCollections$SetN"), (.object "java/util/ImmutableCollections$MapN"), .int, .boolean]
  resolved := Array.replicate 213 none
  statics := some 3 }

def pool25 : Array CpInfo := pool [(1, .methodref 2 3), (0, .class_ 4), (0, .nameAndType 5 6), (0, u "java/util/AbstractCollection"), (0, u "<init>"), (0, u "()V"), (1, .class_ 10), (1, u "java/util/ImmutableCollections"), (2, .class_ 14), (0, u "java/util/ImmutableCollections$AbstractImmutableCollection")] 41

def k25c0 : Code := { maxStack := 1, maxLocals := 1, code := jdk_47_method_1_code, exceptionTable := #[], attributes := #[] }
def k25m0 : Method := { name := "<init>", desc := "()V", sig := { parameters := [], returnType := none }, accessFlags := 0, code := some k25c0 }
/-- java/util/ImmutableCollections$AbstractImmutableCollection -/
def k25 : Class := { plain "java/util/ImmutableCollections$AbstractImmutableCollection" (some 10) with
  accessFlags := 1056
  interfaces := #[]
  cf := some (fileOf pool25 13 #[.nestHost 8] #[{ accessFlags := 0, nameIndex := 5, descriptorIndex := 6, attributes := #[] }] 1056 2 #[] #[])
  fields := #[]
  methods := #[k25m0]
  instanceTypes := #[]
  staticTypes := #[]
  resolved := Array.replicate 56 none
  statics := none }

def pool26 : Array CpInfo := pool [(1, .methodref 2 3), (0, .class_ 4), (0, .nameAndType 5 6), (0, u "java/util/ImmutableCollections$AbstractImmutableCollection"), (0, u "<init>"), (0, u "()V"), (1, .class_ 10), (1, u "java/util/ImmutableCollections"), (3, .class_ 16), (1, u "java/util/ImmutableCollections$AbstractImmutableList"), (60, .class_ 78), (0, u "java/util/List"), (45, .class_ 125), (0, u "java/util/RandomAccess")] 70

def k26c0 : Code := { maxStack := 1, maxLocals := 1, code := jdk_46_method_1_code, exceptionTable := #[], attributes := #[] }
def k26m0 : Method := { name := "<init>", desc := "()V", sig := { parameters := [], returnType := none }, accessFlags := 0, code := some k26c0 }
/-- java/util/ImmutableCollections$AbstractImmutableList -/
def k26 : Class := { plain "java/util/ImmutableCollections$AbstractImmutableList" (some 25) with
  accessFlags := 1056
  interfaces := #[12, 14]
  cf := some (fileOf pool26 14 #[.nestHost 8] #[{ accessFlags := 0, nameIndex := 5, descriptorIndex := 6, attributes := #[] }] 1056 2 #[77, 124] #[])
  fields := #[]
  methods := #[k26m0]
  instanceTypes := #[]
  staticTypes := #[]
  resolved := Array.replicate 196 none
  statics := none }

def pool27 : Array CpInfo := pool [(1, .methodref 2 3), (0, .class_ 4), (0, .nameAndType 5 6), (0, u "java/util/ImmutableCollections$AbstractImmutableList"), (0, u "<init>"), (0, u "()V"), (0, .methodref 8 9), (0, .class_ 10), (0, .nameAndType 11 12), (0, u "java/util/Objects"), (0, u "requireNonNull"), (0, u "(Ljava/lang/Object;)Ljava/lang/Object;"), (0, .fieldref 14 15), (0, .class_ 16), (0, .nameAndType 17 18), (0, u "java/util/ImmutableCollections$List12"), (0, u "e0"), (0, u "Ljava/lang/Object;"), (0, .fieldref 20 21), (0, .class_ 22), (0, .nameAndType 23 18), (0, u "java/util/ImmutableCollections"), (0, u "EMPTY"), (0, .fieldref 14 25), (0, .nameAndType 26 18), (0, u "e1"), (43, .class_ 71), (0, u "java/io/Serializable"), (4, u "(Ljava/lang/Object;)V"), (8, u "(Ljava/lang/Object;Ljava/lang/Object;)V"), (4, u "get"), (0, u "(I)Ljava/lang/Object;")] 33

def k27c0 : Code := { maxStack := 2, maxLocals := 2, code := jdk_44_method_1_code, exceptionTable := #[], attributes := #[] }
def k27m0 : Method := { name := "<init>", desc := "(Ljava/lang/Object;)V", sig := { parameters := [(.object "java/lang/Object")], returnType := none }, accessFlags := 0, code := some k27c0 }
def k27c1 : Code := { maxStack := 2, maxLocals := 3, code := jdk_44_method_2_code, exceptionTable := #[], attributes := #[] }
def k27m1 : Method := { name := "<init>", desc := "(Ljava/lang/Object;Ljava/lang/Object;)V", sig := { parameters := [(.object "java/lang/Object"), (.object "java/lang/Object")], returnType := none }, accessFlags := 0, code := some k27c1 }
def k27c2 : Code := { maxStack := 2, maxLocals := 2, code := jdk_44_method_5_code, exceptionTable := #[], attributes := #[] }
def k27m2 : Method := { name := "get", desc := "(I)Ljava/lang/Object;", sig := { parameters := [.int], returnType := some (.object "java/lang/Object") }, accessFlags := 1, code := some k27c2 }
/-- java/util/ImmutableCollections$List12 -/
def k27 : Class := { plain "java/util/ImmutableCollections$List12" (some 26) with
  accessFlags := 48
  interfaces := #[2]
  cf := some (fileOf pool27 14 #[.nestHost 20] #[{ accessFlags := 0, nameIndex := 5, descriptorIndex := 76, attributes := #[] }, { accessFlags := 0, nameIndex := 5, descriptorIndex := 85, attributes := #[] }, { accessFlags := 1, nameIndex := 90, descriptorIndex := 91, attributes := #[] }] 48 2 #[70] #[{ accessFlags := 18, nameIndex := 17, descriptorIndex := 18, attributes := #[] }, { accessFlags := 18, nameIndex := 26, descriptorIndex := 18, attributes := #[] }])
  fields := #[{ name := "e0", type := (.object "java/lang/Object"), accessFlags := 18, slot := 0, constantValue := 0 }, { name := "e1", type := (.object "java/lang/Object"), accessFlags := 18, slot := 1, constantValue := 0 }]
  methods := #[k27m0, k27m1, k27m2]
  instanceTypes := #[(.object "java/lang/Object"), (.object "java/lang/Object")]
  staticTypes := #[]
  resolved := Array.replicate 125 none
  statics := none }

def pool28 : Array CpInfo := pool [(1, .methodref 2 3), (0, .class_ 4), (0, .nameAndType 5 6), (0, u "java/util/ImmutableCollections$AbstractImmutableList"), (0, u "<init>"), (0, u "()V"), (0, .fieldref 8 9), (0, .class_ 10), (0, .nameAndType 11 12), (0, u "java/util/ImmutableCollections$ListN"), (0, u "elements"), (0, u "[Ljava/lang/Object;"), (0, .fieldref 8 14), (0, .nameAndType 15 16), (0, u "allowNulls"), (0, u "Z"), (42, .class_ 60), (0, u "java/io/Serializable"), (4, u "([Ljava/lang/Object;Z)V"), (13, u "get"), (0, u "(I)Ljava/lang/Object;"), (33, .class_ 115), (0, u "java/util/ImmutableCollections")] 3

def k28c0 : Code := { maxStack := 2, maxLocals := 3, code := jdk_45_method_1_code, exceptionTable := #[], attributes := #[] }
def k28m0 : Method := { name := "<init>", desc := "([Ljava/lang/Object;Z)V", sig := { parameters := [(.array (.object "java/lang/Object")), .boolean], returnType := none }, accessFlags := 2, code := some k28c0 }
def k28c1 : Code := { maxStack := 2, maxLocals := 2, code := jdk_45_method_4_code, exceptionTable := #[], attributes := #[] }
def k28m1 : Method := { name := "get", desc := "(I)Ljava/lang/Object;", sig := { parameters := [.int], returnType := some (.object "java/lang/Object") }, accessFlags := 1, code := some k28c1 }
/-- java/util/ImmutableCollections$ListN -/
def k28 : Class := { plain "java/util/ImmutableCollections$ListN" (some 26) with
  accessFlags := 48
  interfaces := #[2]
  cf := some (fileOf pool28 8 #[.nestHost 114] #[{ accessFlags := 2, nameIndex := 5, descriptorIndex := 65, attributes := #[] }, { accessFlags := 1, nameIndex := 79, descriptorIndex := 80, attributes := #[] }] 48 2 #[59] #[{ accessFlags := 18, nameIndex := 11, descriptorIndex := 12, attributes := #[] }, { accessFlags := 18, nameIndex := 15, descriptorIndex := 16, attributes := #[] }])
  fields := #[{ name := "elements", type := (.array (.object "java/lang/Object")), accessFlags := 18, slot := 0, constantValue := 0 }, { name := "allowNulls", type := .boolean, accessFlags := 18, slot := 1, constantValue := 0 }]
  methods := #[k28m0, k28m1]
  instanceTypes := #[(.array (.object "java/lang/Object")), .boolean]
  staticTypes := #[]
  resolved := Array.replicate 119 none
  statics := none }

def pool29 : Array CpInfo := pool [(2, .class_ 4), (1, u "java/lang/Object"), (0, u "<init>"), (0, u "()V"), (7, .class_ 16), (1, u "java/util/Arrays"), (57, .class_ 76), (1, u "java/util/Arrays$NaturalOrder"), (9, .methodref 2 87), (0, .nameAndType 88 89), (0, u "getClass"), (0, u "()Ljava/lang/Class;"), (20, .class_ 111), (0, u "[Ljava/lang/Object;"), (1, .class_ 115), (1, u "java/util/Arrays$LegacyMergeSort"), (1, u "Z"), (32, .methodref 151 152), (0, .class_ 153), (0, .nameAndType 154 155), (0, u "java/lang/System"), (0, u "arraycopy"), (0, u "(Ljava/lang/Object;ILjava/lang/Object;II)V"), (144, .methodref 14 301), (0, .nameAndType 302 303), (0, u "copyOf"), (0, u "([Ljava/lang/Object;ILjava/lang/Class;)[Ljava/lang/Object;"), (0, .methodref 305 306), (0, .class_ 307), (0, .nameAndType 308 309), (0, u "java/lang/Math"), (0, u "min"), (0, u "(II)I"), (65, .class_ 376), (0, u "java/util/Arrays$ArrayList"), (68, u "$assertionsDisabled"), (269, u "MIN_ARRAY_SORT_GRAN"), (0, u "I"), (2, u "INSERTIONSORT_THRESHOLD"), (140, u "([Ljava/lang/Object;I)[Ljava/lang/Object;"), (114, .class_ 976), (0, u "java/util/Arrays$ArrayItr")] 52

def k29m0 : Method := { name := "<init>", desc := "()V", sig := { parameters := [], returnType := none }, accessFlags := 2, code := none }
def k29c1 : Code := { maxStack := 3, maxLocals := 2, code := jdk_65_method_119_code, exceptionTable := #[], attributes := #[] }
def k29m1 : Method := { name := "copyOf", desc := "([Ljava/lang/Object;I)[Ljava/lang/Object;", sig := { parameters := [(.array (.object "java/lang/Object")), .int], returnType := some (.array (.object "java/lang/Object")) }, accessFlags := 9, code := some k29c1 }
def k29c2 : Code := { maxStack := 6, maxLocals := 4, code := jdk_65_method_120_code, exceptionTable := #[], attributes := #[] }
def k29m2 : Method := { name := "copyOf", desc := "([Ljava/lang/Object;ILjava/lang/Class;)[Ljava/lang/Object;", sig := { parameters := [(.array (.object "java/lang/Object")), .int, (.object "java/lang/Class")], returnType := some (.array (.object "java/lang/Object")) }, accessFlags := 9, code := some k29c2 }
/-- java/util/Arrays -/
def k29 : Class := { plain "java/util/Arrays" (some 0) with
  accessFlags := 49
  interfaces := #[]
  cf := some (fileOf pool29 14 #[.nestMembers #[975, 375, 113, 74]] #[{ accessFlags := 2, nameIndex := 5, descriptorIndex := 6, attributes := #[] }, { accessFlags := 9, nameIndex := 302, descriptorIndex := 860, attributes := #[] }, { accessFlags := 9, nameIndex := 302, descriptorIndex := 303, attributes := #[] }] 49 2 #[] #[{ accessFlags := 26, nameIndex := 715, descriptorIndex := 716, attributes := #[] }, { accessFlags := 26, nameIndex := 719, descriptorIndex := 716, attributes := #[] }, { accessFlags := 4120, nameIndex := 445, descriptorIndex := 117, attributes := #[] }])
  fields := #[{ name := "MIN_ARRAY_SORT_GRAN", type := .int, accessFlags := 26, slot := 0, constantValue := 0 }, { name := "INSERTIONSORT_THRESHOLD", type := .int, accessFlags := 26, slot := 1, constantValue := 0 }, { name := "$assertionsDisabled", type := .boolean, accessFlags := 4120, slot := 2, constantValue := 0 }]
  methods := #[k29m0, k29m1, k29m2]
  instanceTypes := #[]
  staticTypes := #[.int, .int, .boolean]
  resolved := Array.replicate 1029 none
  statics := none }

def pool30 : Array CpInfo := pool [(2, .class_ 4), (1, u "java/lang/Object"), (0, u "<init>"), (0, u "()V"), (1, .class_ 10), (1, u "java/lang/System"), (0, u "allowSecurityManager"), (0, u "I"), (16, u "cons"), (0, u "Ljava/io/Console;"), (77, .class_ 110), (1, u "java/lang/System$CallersHolder"), (43, u "initialErrStream"), (0, u "Ljava/io/PrintStream;"), (19, u "security"), (0, u "Ljava/lang/SecurityManager;"), (31, .class_ 209), (0, u "java/lang/System$1"), (7, u "props"), (0, u "Ljava/util/Properties;"), (2, u "lineSeparator"), (0, u "Ljava/lang/String;"), (96, .class_ 321), (1, u "java/lang/System$LoggerFinder"), (5, .class_ 328), (0, u "java/lang/System$Logger"), (67, u "err"), (2, u "out"), (91, u "notSupportedJnuEncoding"), (15, u "in"), (17, u "initialIn"), (0, u "Ljava/io/InputStream;"), (35, u "bootLayer"), (0, u "Ljava/lang/ModuleLayer;"), (99, .class_ 664), (0, u "java/lang/System$2"), (9, u "NEVER"), (2, u "MAYBE"), (49, u "arraycopy"), (0, u "(Ljava/lang/Object;ILjava/lang/Object;II)V"), (72, .class_ 802), (0, u "java/lang/System$Logger$Level")] 31

def k30m0 : Method := { name := "<init>", desc := "()V", sig := { parameters := [], returnType := none }, accessFlags := 2, code := none }
def k30m1 : Method := { name := "arraycopy", desc := "(Ljava/lang/Object;ILjava/lang/Object;II)V", sig := { parameters := [(.object "java/lang/Object"), .int, (.object "java/lang/Object"), .int, .int], returnType := none }, accessFlags := 265, code := none }
/-- java/lang/System -/
def k30 : Class := { plain "java/lang/System" (some 0) with
  accessFlags := 49
  interfaces := #[]
  cf := some (fileOf pool30 8 #[.nestMembers #[319, 327, 801, 108, 663, 208]] #[{ accessFlags := 2, nameIndex := 5, descriptorIndex := 6, attributes := #[] }, { accessFlags := 265, nameIndex := 727, descriptorIndex := 728, attributes := #[] }] 49 2 #[] #[{ accessFlags := 25, nameIndex := 507, descriptorIndex := 526, attributes := #[] }, { accessFlags := 25, nameIndex := 399, descriptorIndex := 155, attributes := #[] }, { accessFlags := 25, nameIndex := 396, descriptorIndex := 155, attributes := #[] }, { accessFlags := 10, nameIndex := 525, descriptorIndex := 526, attributes := #[] }, { accessFlags := 26, nameIndex := 674, descriptorIndex := 12, attributes := #[] }, { accessFlags := 26, nameIndex := 677, descriptorIndex := 12, attributes := #[] }, { accessFlags := 10, nameIndex := 11, descriptorIndex := 12, attributes := #[] }, { accessFlags := 74, nameIndex := 175, descriptorIndex := 176, attributes := #[] }, { accessFlags := 10, nameIndex := 491, descriptorIndex := 222, attributes := #[] }, { accessFlags := 74, nameIndex := 29, descriptorIndex := 30, attributes := #[] }, { accessFlags := 74, nameIndex := 154, descriptorIndex := 155, attributes := #[] }, { accessFlags := 10, nameIndex := 217, descriptorIndex := 218, attributes := #[] }, { accessFlags := 10, nameIndex := 221, descriptorIndex := 222, attributes := #[] }, { accessFlags := 8, nameIndex := 562, descriptorIndex := 563, attributes := #[] }])
  fields := #[{ name := "in", type := (.object "java/io/InputStream"), accessFlags := 25, slot := 0, constantValue := 0 }, { name := "out", type := (.object "java/io/PrintStream"), accessFlags := 25, slot := 1, constantValue := 0 }, { name := "err", type := (.object "java/io/PrintStream"), accessFlags := 25, slot := 2, constantValue := 0 }, { name := "initialIn", type := (.object "java/io/InputStream"), accessFlags := 10, slot := 3, constantValue := 0 }, { name := "NEVER", type := .int, accessFlags := 26, slot := 4, constantValue := 0 }, { name := "MAYBE", type := .int, accessFlags := 26, slot := 5, constantValue := 0 }, { name := "allowSecurityManager", type := .int, accessFlags := 10, slot := 6, constantValue := 0 }, { name := "security", type := (.object "java/lang/SecurityManager"), accessFlags := 74, slot := 7, constantValue := 0 }, { name := "notSupportedJnuEncoding", type := (.object "java/lang/String"), accessFlags := 10, slot := 8, constantValue := 0 }, { name := "cons", type := (.object "java/io/Console"), accessFlags := 74, slot := 9, constantValue := 0 }, { name := "initialErrStream", type := (.object "java/io/PrintStream"), accessFlags := 74, slot := 10, constantValue := 0 }, { name := "props", type := (.object "java/util/Properties"), accessFlags := 10, slot := 11, constantValue := 0 }, { name := "lineSeparator", type := (.object "java/lang/String"), accessFlags := 10, slot := 12, constantValue := 0 }, { name := "bootLayer", type := (.object "java/lang/ModuleLayer"), accessFlags := 8, slot := 13, constantValue := 0 }]
  methods := #[k30m0, k30m1]
  instanceTypes := #[]
  staticTypes := #[(.object "java/io/InputStream"), (.object "java/io/PrintStream"), (.object "java/io/PrintStream"), (.object "java/io/InputStream"), .int, .int, .int, (.object "java/lang/SecurityManager"), (.object "java/lang/String"), (.object "java/io/Console"), (.object "java/io/PrintStream"), (.object "java/util/Properties"), (.object "java/lang/String"), (.object "java/lang/ModuleLayer")]
  resolved := Array.replicate 834 none
  statics := none }

def pool31 : Array CpInfo := pool [(6, .class_ 8), (1, u "java/lang/Object"), (0, u "<init>"), (0, u "()V"), (1, .class_ 14), (1, u "java/lang/StringUTF16"), (31, u "$assertionsDisabled"), (0, u "Z"), (13, u "HI_BYTE_SHIFT"), (0, u "I"), (2, u "LO_BYTE_SHIFT"), (49, .methodref 12 116), (0, .nameAndType 117 118), (0, u "compress"), (0, u "([CI[BII)I"), (3, u "([CII)[B"), (138, u "coderFromArrayLen"), (0, u "([BI)B"), (106, .class_ 371), (1, u "java/lang/StringUTF16$LinesSpliterator"), (58, u "MAX_LENGTH"), (196, .class_ 628), (0, u "java/lang/StringUTF16$CodePointsSpliterator"), (0, .class_ 630), (0, u "java/lang/StringUTF16$CharsSpliterator")] 4

def k31m0 : Method := { name := "<init>", desc := "()V", sig := { parameters := [], returnType := none }, accessFlags := 0, code := none }
def k31c1 : Code := { maxStack := 2, maxLocals := 2, code := jdk_52_method_15_code, exceptionTable := #[], attributes := #[] }
def k31m1 : Method := { name := "coderFromArrayLen", desc := "([BI)B", sig := { parameters := [(.array .byte), .int], returnType := some .byte }, accessFlags := 8, code := some k31c1 }
def k31c2 : Code := { maxStack := 5, maxLocals := 6, code := jdk_52_method_16_code, exceptionTable := #[], attributes := #[] }
def k31m2 : Method := { name := "compress", desc := "([CII)[B", sig := { parameters := [(.array .char), .int, .int], returnType := some (.array .byte) }, accessFlags := 9, code := some k31c2 }
def k31c3 : Code := { maxStack := 3, maxLocals := 7, code := jdk_52_method_21_code, exceptionTable := #[], attributes := #[] }
def k31m3 : Method := { name := "compress", desc := "([CI[BII)I", sig := { parameters := [(.array .char), .int, (.array .byte), .int, .int], returnType := some .int }, accessFlags := 9, code := some k31c3 }
/-- java/lang/StringUTF16 -/
def k31 : Class := { plain "java/lang/StringUTF16" (some 0) with
  accessFlags := 48
  interfaces := #[]
  cf := some (fileOf pool31 12 #[.nestMembers #[627, 629, 369]] #[{ accessFlags := 0, nameIndex := 9, descriptorIndex := 10, attributes := #[] }, { accessFlags := 8, nameIndex := 261, descriptorIndex := 262, attributes := #[] }, { accessFlags := 9, nameIndex := 117, descriptorIndex := 122, attributes := #[] }, { accessFlags := 9, nameIndex := 117, descriptorIndex := 118, attributes := #[] }] 48 6 #[] #[{ accessFlags := 26, nameIndex := 61, descriptorIndex := 62, attributes := #[] }, { accessFlags := 26, nameIndex := 65, descriptorIndex := 62, attributes := #[] }, { accessFlags := 24, nameIndex := 430, descriptorIndex := 62, attributes := #[] }, { accessFlags := 4120, nameIndex := 46, descriptorIndex := 47, attributes := #[] }])
  fields := #[{ name := "HI_BYTE_SHIFT", type := .int, accessFlags := 26, slot := 0, constantValue := 0 }, { name := "LO_BYTE_SHIFT", type := .int, accessFlags := 26, slot := 1, constantValue := 0 }, { name := "MAX_LENGTH", type := .int, accessFlags := 24, slot := 2, constantValue := 0 }, { name := "$assertionsDisabled", type := .boolean, accessFlags := 4120, slot := 3, constantValue := 0 }]
  methods := #[k31m0, k31m1, k31m2, k31m3]
  instanceTypes := #[]
  staticTypes := #[.int, .int, .int, .boolean]
  resolved := Array.replicate 635 none
  statics := none }

def pool32 : Array CpInfo := pool [(9, u "<init>"), (6, .class_ 18), (1, u "java/lang/Object"), (0, u "()V"), (1, .class_ 23), (1, u "jdk/internal/util/ArraysSupport"), (0, u "LOG2_ARRAY_LONG_INDEX_SCALE"), (0, u "I"), (2, u "U"), (0, u "Ljdk/internal/misc/Unsafe;"), (8, u "BIG_ENDIAN"), (0, u "Z"), (8, u "LOG2_BYTE_BIT_SIZE"), (4, u "LOG2_ARRAY_INT_INDEX_SCALE"), (54, u "JLA"), (0, u "Ljdk/internal/access/JavaLangAccess;"), (11, u "LOG2_ARRAY_BOOLEAN_INDEX_SCALE"), (9, u "LOG2_ARRAY_BYTE_INDEX_SCALE"), (5, u "LOG2_ARRAY_CHAR_INDEX_SCALE"), (5, u "LOG2_ARRAY_SHORT_INDEX_SCALE"), (18, u "LOG2_ARRAY_FLOAT_INDEX_SCALE"), (24, u "LOG2_ARRAY_DOUBLE_INDEX_SCALE"), (89, u "T_BOOLEAN"), (2, u "T_CHAR"), (1, u "T_FLOAT"), (1, u "T_DOUBLE"), (1, u "T_BYTE"), (1, u "T_SHORT"), (1, u "T_INT"), (1, u "T_LONG"), (1, u "SOFT_MAX_ARRAY_LENGTH")] 83

def k32m0 : Method := { name := "<init>", desc := "()V", sig := { parameters := [], returnType := none }, accessFlags := 2, code := none }
/-- jdk/internal/util/ArraysSupport -/
def k32 : Class := { plain "jdk/internal/util/ArraysSupport" (some 0) with
  accessFlags := 33
  interfaces := #[]
  cf := some (fileOf pool32 21 #[] #[{ accessFlags := 2, nameIndex := 9, descriptorIndex := 19, attributes := #[] }] 33 16 #[] #[{ accessFlags := 24, nameIndex := 28, descriptorIndex := 29, attributes := #[] }, { accessFlags := 26, nameIndex := 38, descriptorIndex := 39, attributes := #[] }, { accessFlags := 25, nameIndex := 121, descriptorIndex := 25, attributes := #[] }, { accessFlags := 25, nameIndex := 131, descriptorIndex := 25, attributes := #[] }, { accessFlags := 25, nameIndex := 137, descriptorIndex := 25, attributes := #[] }, { accessFlags := 25, nameIndex := 143, descriptorIndex := 25, attributes := #[] }, { accessFlags := 25, nameIndex := 53, descriptorIndex := 25, attributes := #[] }, { accessFlags := 25, nameIndex := 24, descriptorIndex := 25, attributes := #[] }, { accessFlags := 25, nameIndex := 162, descriptorIndex := 25, attributes := #[] }, { accessFlags := 25, nameIndex := 187, descriptorIndex := 25, attributes := #[] }, { accessFlags := 26, nameIndex := 48, descriptorIndex := 25, attributes := #[] }, { accessFlags := 25, nameIndex := 277, descriptorIndex := 25, attributes := #[] }, { accessFlags := 25, nameIndex := 280, descriptorIndex := 25, attributes := #[] }, { accessFlags := 25, nameIndex := 282, descriptorIndex := 25, attributes := #[] }, { accessFlags := 25, nameIndex := 284, descriptorIndex := 25, attributes := #[] }, { accessFlags := 25, nameIndex := 286, descriptorIndex := 25, attributes := #[] }, { accessFlags := 25, nameIndex := 288, descriptorIndex := 25, attributes := #[] }, { accessFlags := 25, nameIndex := 290, descriptorIndex := 25, attributes := #[] }, { accessFlags := 25, nameIndex := 292, descriptorIndex := 25, attributes := #[] }, { accessFlags := 26, nameIndex := 108, descriptorIndex := 109, attributes := #[] }, { accessFlags := 25, nameIndex := 294, descriptorIndex := 25, attributes := #[] }])
  fields := #[{ name := "U", type := (.object "jdk/internal/misc/Unsafe"), accessFlags := 24, slot := 0, constantValue := 0 }, { name := "BIG_ENDIAN", type := .boolean, accessFlags := 26, slot := 1, constantValue := 0 }, { name := "LOG2_ARRAY_BOOLEAN_INDEX_SCALE", type := .int, accessFlags := 25, slot := 2, constantValue := 0 }, { name := "LOG2_ARRAY_BYTE_INDEX_SCALE", type := .int, accessFlags := 25, slot := 3, constantValue := 0 }, { name := "LOG2_ARRAY_CHAR_INDEX_SCALE", type := .int, accessFlags := 25, slot := 4, constantValue := 0 }, { name := "LOG2_ARRAY_SHORT_INDEX_SCALE", type := .int, accessFlags := 25, slot := 5, constantValue := 0 }, { name := "LOG2_ARRAY_INT_INDEX_SCALE", type := .int, accessFlags := 25, slot := 6, constantValue := 0 }, { name := "LOG2_ARRAY_LONG_INDEX_SCALE", type := .int, accessFlags := 25, slot := 7, constantValue := 0 }, { name := "LOG2_ARRAY_FLOAT_INDEX_SCALE", type := .int, accessFlags := 25, slot := 8, constantValue := 0 }, { name := "LOG2_ARRAY_DOUBLE_INDEX_SCALE", type := .int, accessFlags := 25, slot := 9, constantValue := 0 }, { name := "LOG2_BYTE_BIT_SIZE", type := .int, accessFlags := 26, slot := 10, constantValue := 0 }, { name := "T_BOOLEAN", type := .int, accessFlags := 25, slot := 11, constantValue := 0 }, { name := "T_CHAR", type := .int, accessFlags := 25, slot := 12, constantValue := 0 }, { name := "T_FLOAT", type := .int, accessFlags := 25, slot := 13, constantValue := 0 }, { name := "T_DOUBLE", type := .int, accessFlags := 25, slot := 14, constantValue := 0 }, { name := "T_BYTE", type := .int, accessFlags := 25, slot := 15, constantValue := 0 }, { name := "T_SHORT", type := .int, accessFlags := 25, slot := 16, constantValue := 0 }, { name := "T_INT", type := .int, accessFlags := 25, slot := 17, constantValue := 0 }, { name := "T_LONG", type := .int, accessFlags := 25, slot := 18, constantValue := 0 }, { name := "JLA", type := (.object "jdk/internal/access/JavaLangAccess"), accessFlags := 26, slot := 19, constantValue := 0 }, { name := "SOFT_MAX_ARRAY_LENGTH", type := .int, accessFlags := 25, slot := 20, constantValue := 0 }]
  methods := #[k32m0]
  instanceTypes := #[]
  staticTypes := #[(.object "jdk/internal/misc/Unsafe"), .boolean, .int, .int, .int, .int, .int, .int, .int, .int, .int, .int, .int, .int, .int, .int, .int, .int, .int, (.object "jdk/internal/access/JavaLangAccess"), .int]
  resolved := Array.replicate 378 none
  statics := none }

def pool33 : Array CpInfo := pool [(1, u "java/lang/Class"), (0, .class_ 1), (0, u "java/lang/Object"), (0, .class_ 3)] 3

/-- java/lang/Class -/
def k33 : Class := { plain "java/lang/Class" (some 0) with
  accessFlags := 49
  interfaces := #[]
  cf := some (fileOf pool33 2 #[] #[] 49 4 #[] #[])
  fields := #[]
  methods := #[]
  instanceTypes := #[]
  staticTypes := #[]
  resolved := Array.replicate 8 none
  statics := none }

/-- the primitive byte -/
def k34 : Class := { plain "byte" none with kind := .primitive 'B', accessFlags := 0x411 }
/-- [B -/
def k35 : Class := { plain "[B" (some 0) with kind := .array 34 .byte, interfaces := #[15, 2], accessFlags := 1041 }

/-- the primitive char -/
def k36 : Class := { plain "char" none with kind := .primitive 'C', accessFlags := 0x411 }
/-- [C -/
def k37 : Class := { plain "[C" (some 0) with kind := .array 36 .char, interfaces := #[15, 2], accessFlags := 1041 }

/-- the primitive double -/
def k38 : Class := { plain "double" none with kind := .primitive 'D', accessFlags := 0x411 }
/-- [D -/
def k39 : Class := { plain "[D" (some 0) with kind := .array 38 .double, interfaces := #[15, 2], accessFlags := 1041 }

/-- the primitive int -/
def k40 : Class := { plain "int" none with kind := .primitive 'I', accessFlags := 0x411 }
/-- [I -/
def k41 : Class := { plain "[I" (some 0) with kind := .array 40 .int, interfaces := #[15, 2], accessFlags := 1041 }

/-- [Ljava/lang/Object; -/
def k42 : Class := { plain "[Ljava/lang/Object;" (some 0) with mirror := some 4, kind := .array 0 (.object "java/lang/Object"), interfaces := #[15, 2], accessFlags := 1041 }

def heap : Heap := #[{ cls := 7, slots := #[.long 0, .int 1, .null, .int 0, .null, .int 0, .int 0], vm := .statics 7 },
  { cls := 16, slots := #[.long 0, .int 0, .ref 5, .ref 6], vm := .statics 16 },
  { cls := 23, slots := #[.null, .null, .null], vm := .statics 23 },
  { cls := 24, slots := #[.long 0, .int 0, .null, .ref 7, .ref 8, .null, .null, .null, .int 0, .int 1], vm := .statics 24 },
  { cls := 33, slots := #[], vm := .mirror 42 },
  { cls := 42, slots := #[], vm := .none },
  { cls := 42, slots := #[], vm := .none },
  { cls := 0, slots := #[], vm := .none },
  { cls := 28, slots := #[.null, .int 0], vm := .none }]
def classes : Array Class := #[k0, k1, k2, k3, k4, k5, k6, k7, k8, k9, k10, k11, k12, k13, k14, k15, k16, k17, k18, k19, k20, k21, k22, k23, k24, k25, k26, k27, k28, k29, k30, k31, k32, k33, k34, k35, k36, k37, k38, k39, k40, k41, k42]
def interned : List (Array UInt16 × Addr) := []
def slotsUsed : Nat := 26
def theMethod : MethodId := ⟨1, 2⟩
def args0 : Array Value := #[.int 5, .int 3, .int 7, .int 1, .int 2, .int 9]
def aboutOver (below : List Frame) : State where
  vm := { classes := classes, interned := interned.toArray }
  heap := heap
  slotsUsed := slotsUsed
  threads := #[{ frames := .invoking theMethod args0 :: below }]
def below0 : List Frame := [.native { method := ⟨0, 0⟩, args := #[] }]
def about1 : State := aboutOver below0
def p0 : Program := .bare "" "" ""
def e0 : Env := launch0.env 0 0 0
theorem w_frames : about1.frames = Frame.invoking theMethod args0 :: below0 := rfl
set_option maxRecDepth 65536 in
theorem w_args : argsFit about1.vm theMethod args0 = true := by decide +kernel
set_option maxRecDepth 65536 in
theorem w_heap : heapFits about1 = true := by decide +kernel
set_option maxRecDepth 65536 in
theorem w_runnable : about1.curStatus? = some .runnable := by decide +kernel
set_option maxRecDepth 65536 in
theorem w_alone : about1.alone = true := by decide +kernel
set_option maxRecDepth 65536 in
theorem w_named : about1.methodNamed? x = some theMethod := by decide +kernel
set_option maxRecDepth 65536 in
theorem w_hears : about1.hears theMethod below0 = true := by decide +kernel
set_option maxRecDepth 65536 in
theorem w_ripe : about1.ripe theMethod args0 below0 = true := by decide +kernel
theorem w_running : about1.status = .running := rfl
set_option maxRecDepth 65536 in
theorem w_room : about1.hasRoom e0.platform room_1 = true :=
  launch0.hasRoom_least _ room_1 (by decide +kernel) (by decide +kernel) (by decide +kernel) (by decide +kernel) (by decide +kernel) (by decide +kernel)
theorem allAtoms_all (ts : List Jvm.Cond) (a : Array Jvm.Value) (st : Jvm.State) : (allAtoms ts).before a st = ts.all (fun c => c.before a st) := by
  induction ts with
  | nil => rfl
  | cons c t ih =>
    show (Jvm.Cond.and c (allAtoms t)).before a st = _
    rw [Jvm.Cond.before_and, ih, List.all_cons]
def words1 : List Jvm.Cond := Jvm.Cond.code x code maxLocals ret :: tables_1
/-- a 'code' word, met by the world's own term for the bytes: nothing is compared byte by byte -/
theorem code_word {y : MethodName} {bytes : ByteArray} {mx : Nat} {rt : Option FieldType} {a : Array Value} {s : State} {m : MethodId} {meth : Method} {c : Code} (h1 : s.methodNamed? y = some m) (h2 : s.vm.method? m = some meth) (h3 : meth.code = some c) (h4 : c.code = bytes)
    (h5 : (c.maxLocals == mx && c.exceptionTable.isEmpty && decide (c.maxStack ≤ mostOperands) && decide (meth.sig.returnType = rt) && !meth.locks && decide (parseMethodDescriptor y.desc = some meth.sig)) = true) : (Jvm.Cond.code y bytes mx rt).before a s = true := by
  simp only [Bool.and_eq_true, beq_iff_eq, Bool.not_eq_true', decide_eq_true_eq] at h5
  obtain ⟨⟨⟨⟨⟨g1, g2⟩, g3⟩, g4⟩, g5⟩, g6⟩ := h5
  simp [Cond.before, Cond.holds, Cond.value, h1, h2, h3, h4, g1, g2, g3, g4, g5, g6]
def isCode : Jvm.Cond → Bool
  | .code _ _ _ _ => true
  | _ => false
theorem all_split {L : List Jvm.Cond} {P : Jvm.Cond → Bool} (h1 : L.all (fun c => isCode c || P c) = true) (h2 : ∀ c ∈ L.filter isCode, P c = true) : L.all P = true := by
  refine List.all_eq_true.mpr fun c hc => ?_
  have h := List.all_eq_true.mp h1 c hc
  rcases Bool.eq_false_or_eq_true (isCode c) with hi | hi
  · exact h2 c (List.mem_filter.mpr ⟨hc, hi⟩)
  · simpa [hi] using h
set_option maxRecDepth 65536 in
theorem w_c0 : (Jvm.Cond.code x code maxLocals ret).before args0 about1 = true := code_word (m := ⟨1, 2⟩) (meth := k1m2) (c := k1c2) (by decide +kernel) rfl rfl rfl (by decide +kernel)
set_option maxRecDepth 65536 in
theorem w_c1 : (Jvm.Cond.code ({ cls := "com/example/level_slate/levelslate/TopicCandidatesGetCandidatePinLaw", name := "str", desc := "(I)Ljava/lang/String;" } : Jvm.MethodName) method_2_code (5 : Nat) (Option.some (Jvm.ClassFile.FieldType.object "java/lang/String"))).before args0 about1 = true := code_word (m := ⟨1, 1⟩) (meth := k1m1) (c := k1c1) (by decide +kernel) rfl rfl rfl (by decide +kernel)
set_option maxRecDepth 65536 in
theorem w_c2 : (Jvm.Cond.code ({ cls := "java/lang/String", name := "<init>", desc := "([C)V" } : Jvm.MethodName) jdk_42_method_3_code (2 : Nat) (Option.none : Option Jvm.ClassFile.FieldType)).before args0 about1 = true := code_word (m := ⟨7, 1⟩) (meth := k7m1) (c := k7c1) (by decide +kernel) rfl rfl rfl (by decide +kernel)
set_option maxRecDepth 65536 in
theorem w_c3 : (Jvm.Cond.code ({ cls := "java/lang/String", name := "<init>", desc := "([CIILjava/lang/Void;)V" } : Jvm.MethodName) jdk_42_method_149_code (6 : Nat) (Option.none : Option Jvm.ClassFile.FieldType)).before args0 about1 = true := code_word (m := ⟨7, 4⟩) (meth := k7m4) (c := k7c4) (by decide +kernel) rfl rfl rfl (by decide +kernel)
set_option maxRecDepth 65536 in
theorem w_c4 : (Jvm.Cond.code ({ cls := "java/lang/Object", name := "<init>", desc := "()V" } : Jvm.MethodName) object_method_1_code (1 : Nat) (Option.none : Option Jvm.ClassFile.FieldType)).before args0 about1 = true := code_word (m := ⟨0, 0⟩) (meth := k0m0) (c := k0c0) (by decide +kernel) rfl rfl rfl (by decide +kernel)
set_option maxRecDepth 65536 in
theorem w_c5 : (Jvm.Cond.code ({ cls := "java/util/ArrayList", name := "<init>", desc := "()V" } : Jvm.MethodName) jdk_38_method_2_code (1 : Nat) (Option.none : Option Jvm.ClassFile.FieldType)).before args0 about1 = true := code_word (m := ⟨16, 0⟩) (meth := k16m0) (c := k16c0) (by decide +kernel) rfl rfl rfl (by decide +kernel)
set_option maxRecDepth 65536 in
theorem w_c6 : (Jvm.Cond.code ({ cls := "java/util/AbstractList", name := "<init>", desc := "()V" } : Jvm.MethodName) jdk_39_method_1_code (1 : Nat) (Option.none : Option Jvm.ClassFile.FieldType)).before args0 about1 = true := code_word (m := ⟨13, 0⟩) (meth := k13m0) (c := k13c0) (by decide +kernel) rfl rfl rfl (by decide +kernel)
set_option maxRecDepth 65536 in
theorem w_c7 : (Jvm.Cond.code ({ cls := "java/util/AbstractCollection", name := "<init>", desc := "()V" } : Jvm.MethodName) jdk_22_method_1_code (1 : Nat) (Option.none : Option Jvm.ClassFile.FieldType)).before args0 about1 = true := code_word (m := ⟨10, 0⟩) (meth := k10m0) (c := k10c0) (by decide +kernel) rfl rfl rfl (by decide +kernel)
set_option maxRecDepth 65536 in
theorem w_c8 : (Jvm.Cond.code ({ cls := "java/util/ArrayList", name := "add", desc := "(Ljava/lang/Object;)Z" } : Jvm.MethodName) jdk_38_method_25_code (2 : Nat) (Option.some Jvm.ClassFile.FieldType.boolean)).before args0 about1 = true := code_word (m := ⟨16, 9⟩) (meth := k16m9) (c := k16c9) (by decide +kernel) rfl rfl rfl (by decide +kernel)
set_option maxRecDepth 65536 in
theorem w_c9 : (Jvm.Cond.code ({ cls := "java/util/ArrayList", name := "add", desc := "(Ljava/lang/Object;[Ljava/lang/Object;I)V" } : Jvm.MethodName) jdk_38_method_24_code (4 : Nat) (Option.none : Option Jvm.ClassFile.FieldType)).before args0 about1 = true := code_word (m := ⟨16, 8⟩) (meth := k16m8) (c := k16c8) (by decide +kernel) rfl rfl rfl (by decide +kernel)
set_option maxRecDepth 65536 in
theorem w_c10 : (Jvm.Cond.code ({ cls := "java/util/ArrayList", name := "grow", desc := "()[Ljava/lang/Object;" } : Jvm.MethodName) jdk_38_method_7_code (1 : Nat) (Option.some (Jvm.ClassFile.FieldType.array (Jvm.ClassFile.FieldType.object "java/lang/Object")))).before args0 about1 = true := code_word (m := ⟨16, 2⟩) (meth := k16m2) (c := k16c2) (by decide +kernel) rfl rfl rfl (by decide +kernel)
set_option maxRecDepth 65536 in
theorem w_c11 : (Jvm.Cond.code ({ cls := "java/util/ArrayList", name := "grow", desc := "(I)[Ljava/lang/Object;" } : Jvm.MethodName) jdk_38_method_6_code (4 : Nat) (Option.some (Jvm.ClassFile.FieldType.array (Jvm.ClassFile.FieldType.object "java/lang/Object")))).before args0 about1 = true := code_word (m := ⟨16, 1⟩) (meth := k16m1) (c := k16c1) (by decide +kernel) rfl rfl rfl (by decide +kernel)
set_option maxRecDepth 65536 in
theorem w_c12 : (Jvm.Cond.code ({ cls := "java/lang/Math", name := "max", desc := "(II)I" } : Jvm.MethodName) jdk_29_method_65_code (2 : Nat) (Option.some Jvm.ClassFile.FieldType.int)).before args0 about1 = true := code_word (m := ⟨17, 1⟩) (meth := k17m1) (c := k17c1) (by decide +kernel) rfl rfl rfl (by decide +kernel)
set_option maxRecDepth 65536 in
theorem w_c13 : (Jvm.Cond.code ({ cls := "java/lang/Double", name := "valueOf", desc := "(D)Ljava/lang/Double;" } : Jvm.MethodName) jdk_117_method_4_code (2 : Nat) (Option.some (Jvm.ClassFile.FieldType.object "java/lang/Double"))).before args0 about1 = true := code_word (m := ⟨19, 0⟩) (meth := k19m0) (c := k19c0) (by decide +kernel) rfl rfl rfl (by decide +kernel)
set_option maxRecDepth 65536 in
theorem w_c14 : (Jvm.Cond.code ({ cls := "java/lang/Double", name := "<init>", desc := "(D)V" } : Jvm.MethodName) jdk_117_method_9_code (3 : Nat) (Option.none : Option Jvm.ClassFile.FieldType)).before args0 about1 = true := code_word (m := ⟨19, 1⟩) (meth := k19m1) (c := k19c1) (by decide +kernel) rfl rfl rfl (by decide +kernel)
set_option maxRecDepth 65536 in
theorem w_c15 : (Jvm.Cond.code ({ cls := "java/lang/Number", name := "<init>", desc := "()V" } : Jvm.MethodName) jdk_18_method_1_code (1 : Nat) (Option.none : Option Jvm.ClassFile.FieldType)).before args0 about1 = true := code_word (m := ⟨18, 0⟩) (meth := k18m0) (c := k18c0) (by decide +kernel) rfl rfl rfl (by decide +kernel)
set_option maxRecDepth 65536 in
theorem w_c16 : (Jvm.Cond.code ({ cls := "java/lang/String", name := "valueOf", desc := "(C)Ljava/lang/String;" } : Jvm.MethodName) jdk_42_method_139_code (1 : Nat) (Option.some (Jvm.ClassFile.FieldType.object "java/lang/String"))).before args0 about1 = true := code_word (m := ⟨7, 3⟩) (meth := k7m3) (c := k7c3) (by decide +kernel) rfl rfl rfl (by decide +kernel)
set_option maxRecDepth 65536 in
theorem w_c17 : (Jvm.Cond.code ({ cls := "java/lang/StringLatin1", name := "canEncode", desc := "(C)Z" } : Jvm.MethodName) jdk_43_method_3_code (1 : Nat) (Option.some Jvm.ClassFile.FieldType.boolean)).before args0 about1 = true := code_word (m := ⟨20, 1⟩) (meth := k20m1) (c := k20c1) (by decide +kernel) rfl rfl rfl (by decide +kernel)
set_option maxRecDepth 65536 in
theorem w_c18 : (Jvm.Cond.code ({ cls := "java/lang/StringLatin1", name := "toBytes", desc := "(C)[B" } : Jvm.MethodName) jdk_43_method_46_code (1 : Nat) (Option.some (Jvm.ClassFile.FieldType.array Jvm.ClassFile.FieldType.byte))).before args0 about1 = true := code_word (m := ⟨20, 2⟩) (meth := k20m2) (c := k20c2) (by decide +kernel) rfl rfl rfl (by decide +kernel)
set_option maxRecDepth 65536 in
theorem w_c19 : (Jvm.Cond.code ({ cls := "java/lang/String", name := "<init>", desc := "([BB)V" } : Jvm.MethodName) jdk_42_method_151_code (3 : Nat) (Option.none : Option Jvm.ClassFile.FieldType)).before args0 about1 = true := code_word (m := ⟨7, 5⟩) (meth := k7m5) (c := k7c5) (by decide +kernel) rfl rfl rfl (by decide +kernel)
set_option maxRecDepth 65536 in
theorem w_c20 : (Jvm.Cond.code ({ cls := "com/example/level_slate/levelslate/TopicCandidates", name := "<init>", desc := "(Ljava/lang/String;Ljava/util/List;Ljava/util/List;)V" } : Jvm.MethodName) prog_14_method_1_code (6 : Nat) (Option.none : Option Jvm.ClassFile.FieldType)).before args0 about1 = true := code_word (m := ⟨21, 0⟩) (meth := k21m0) (c := k21c0) (by decide +kernel) rfl rfl rfl (by decide +kernel)
set_option maxRecDepth 65536 in
theorem w_c21 : (Jvm.Cond.code ({ cls := "java/util/ArrayList", name := "size", desc := "()I" } : Jvm.MethodName) jdk_38_method_8_code (1 : Nat) (Option.some Jvm.ClassFile.FieldType.int)).before args0 about1 = true := code_word (m := ⟨16, 3⟩) (meth := k16m3) (c := k16c3) (by decide +kernel) rfl rfl rfl (by decide +kernel)
set_option maxRecDepth 65536 in
theorem w_c22 : (Jvm.Cond.code ({ cls := "java/util/ArrayList", name := "get", desc := "(I)Ljava/lang/Object;" } : Jvm.MethodName) jdk_38_method_20_code (2 : Nat) (Option.some (Jvm.ClassFile.FieldType.object "java/lang/Object"))).before args0 about1 = true := code_word (m := ⟨16, 7⟩) (meth := k16m7) (c := k16c7) (by decide +kernel) rfl rfl rfl (by decide +kernel)
set_option maxRecDepth 65536 in
theorem w_c23 : (Jvm.Cond.code ({ cls := "java/util/Objects", name := "checkIndex", desc := "(II)I" } : Jvm.MethodName) jdk_31_method_17_code (2 : Nat) (Option.some Jvm.ClassFile.FieldType.int)).before args0 about1 = true := code_word (m := ⟨22, 2⟩) (meth := k22m2) (c := k22c2) (by decide +kernel) rfl rfl rfl (by decide +kernel)
set_option maxRecDepth 65536 in
theorem w_c24 : (Jvm.Cond.code ({ cls := "jdk/internal/util/Preconditions", name := "checkIndex", desc := "(IILjava/util/function/BiFunction;)I" } : Jvm.MethodName) jdk_41_method_11_code (3 : Nat) (Option.some Jvm.ClassFile.FieldType.int)).before args0 about1 = true := code_word (m := ⟨23, 1⟩) (meth := k23m1) (c := k23c1) (by decide +kernel) rfl rfl rfl (by decide +kernel)
set_option maxRecDepth 65536 in
theorem w_c25 : (Jvm.Cond.code ({ cls := "java/util/ArrayList", name := "elementData", desc := "(I)Ljava/lang/Object;" } : Jvm.MethodName) jdk_38_method_18_code (2 : Nat) (Option.some (Jvm.ClassFile.FieldType.object "java/lang/Object"))).before args0 about1 = true := code_word (m := ⟨16, 6⟩) (meth := k16m6) (c := k16c6) (by decide +kernel) rfl rfl rfl (by decide +kernel)
set_option maxRecDepth 65536 in
theorem w_c26 : (Jvm.Cond.code ({ cls := "java/lang/Double", name := "doubleValue", desc := "()D" } : Jvm.MethodName) jdk_117_method_19_code (1 : Nat) (Option.some Jvm.ClassFile.FieldType.double)).before args0 about1 = true := code_word (m := ⟨19, 2⟩) (meth := k19m2) (c := k19c2) (by decide +kernel) rfl rfl rfl (by decide +kernel)
set_option maxRecDepth 65536 in
theorem w_c27 : (Jvm.Cond.code ({ cls := "java/util/List", name := "copyOf", desc := "(Ljava/util/Collection;)Ljava/util/List;" } : Jvm.MethodName) jdk_40_method_48_code (1 : Nat) (Option.some (Jvm.ClassFile.FieldType.object "java/util/List"))).before args0 about1 = true := code_word (m := ⟨12, 4⟩) (meth := k12m4) (c := k12c4) (by decide +kernel) rfl rfl rfl (by decide +kernel)
set_option maxRecDepth 65536 in
theorem w_c28 : (Jvm.Cond.code ({ cls := "java/util/ImmutableCollections", name := "listCopy", desc := "(Ljava/util/Collection;)Ljava/util/List;" } : Jvm.MethodName) jdk_56_method_3_code (2 : Nat) (Option.some (Jvm.ClassFile.FieldType.object "java/util/List"))).before args0 about1 = true := code_word (m := ⟨24, 1⟩) (meth := k24m1) (c := k24c1) (by decide +kernel) rfl rfl rfl (by decide +kernel)
set_option maxRecDepth 65536 in
theorem w_c29 : (Jvm.Cond.code ({ cls := "java/util/ArrayList", name := "isEmpty", desc := "()Z" } : Jvm.MethodName) jdk_38_method_9_code (1 : Nat) (Option.some Jvm.ClassFile.FieldType.boolean)).before args0 about1 = true := code_word (m := ⟨16, 4⟩) (meth := k16m4) (c := k16c4) (by decide +kernel) rfl rfl rfl (by decide +kernel)
set_option maxRecDepth 65536 in
theorem w_c30 : (Jvm.Cond.code ({ cls := "java/util/ArrayList", name := "toArray", desc := "()[Ljava/lang/Object;" } : Jvm.MethodName) jdk_38_method_16_code (1 : Nat) (Option.some (Jvm.ClassFile.FieldType.array (Jvm.ClassFile.FieldType.object "java/lang/Object")))).before args0 about1 = true := code_word (m := ⟨16, 5⟩) (meth := k16m5) (c := k16c5) (by decide +kernel) rfl rfl rfl (by decide +kernel)
set_option maxRecDepth 65536 in
theorem w_c31 : (Jvm.Cond.code ({ cls := "java/util/Arrays", name := "copyOf", desc := "([Ljava/lang/Object;I)[Ljava/lang/Object;" } : Jvm.MethodName) jdk_65_method_119_code (2 : Nat) (Option.some (Jvm.ClassFile.FieldType.array (Jvm.ClassFile.FieldType.object "java/lang/Object")))).before args0 about1 = true := code_word (m := ⟨29, 1⟩) (meth := k29m1) (c := k29c1) (by decide +kernel) rfl rfl rfl (by decide +kernel)
set_option maxRecDepth 65536 in
theorem w_c32 : (Jvm.Cond.code ({ cls := "java/util/Arrays", name := "copyOf", desc := "([Ljava/lang/Object;ILjava/lang/Class;)[Ljava/lang/Object;" } : Jvm.MethodName) jdk_65_method_120_code (4 : Nat) (Option.some (Jvm.ClassFile.FieldType.array (Jvm.ClassFile.FieldType.object "java/lang/Object")))).before args0 about1 = true := code_word (m := ⟨29, 2⟩) (meth := k29m2) (c := k29c2) (by decide +kernel) rfl rfl rfl (by decide +kernel)
set_option maxRecDepth 65536 in
theorem w_c33 : (Jvm.Cond.code ({ cls := "java/lang/Math", name := "min", desc := "(II)I" } : Jvm.MethodName) jdk_29_method_69_code (2 : Nat) (Option.some Jvm.ClassFile.FieldType.int)).before args0 about1 = true := code_word (m := ⟨17, 2⟩) (meth := k17m2) (c := k17c2) (by decide +kernel) rfl rfl rfl (by decide +kernel)
set_option maxRecDepth 65536 in
theorem w_c34 : (Jvm.Cond.code ({ cls := "java/util/List", name := "of", desc := "([Ljava/lang/Object;)Ljava/util/List;" } : Jvm.MethodName) jdk_40_method_47_code (2 : Nat) (Option.some (Jvm.ClassFile.FieldType.object "java/util/List"))).before args0 about1 = true := code_word (m := ⟨12, 3⟩) (meth := k12m3) (c := k12c3) (by decide +kernel) rfl rfl rfl (by decide +kernel)
set_option maxRecDepth 65536 in
theorem w_c35 : (Jvm.Cond.code ({ cls := "java/util/ImmutableCollections$List12", name := "<init>", desc := "(Ljava/lang/Object;Ljava/lang/Object;)V" } : Jvm.MethodName) jdk_44_method_2_code (3 : Nat) (Option.none : Option Jvm.ClassFile.FieldType)).before args0 about1 = true := code_word (m := ⟨27, 1⟩) (meth := k27m1) (c := k27c1) (by decide +kernel) rfl rfl rfl (by decide +kernel)
set_option maxRecDepth 65536 in
theorem w_c36 : (Jvm.Cond.code ({ cls := "java/util/ImmutableCollections$AbstractImmutableList", name := "<init>", desc := "()V" } : Jvm.MethodName) jdk_46_method_1_code (1 : Nat) (Option.none : Option Jvm.ClassFile.FieldType)).before args0 about1 = true := code_word (m := ⟨26, 0⟩) (meth := k26m0) (c := k26c0) (by decide +kernel) rfl rfl rfl (by decide +kernel)
set_option maxRecDepth 65536 in
theorem w_c37 : (Jvm.Cond.code ({ cls := "java/util/ImmutableCollections$AbstractImmutableCollection", name := "<init>", desc := "()V" } : Jvm.MethodName) jdk_47_method_1_code (1 : Nat) (Option.none : Option Jvm.ClassFile.FieldType)).before args0 about1 = true := code_word (m := ⟨25, 0⟩) (meth := k25m0) (c := k25c0) (by decide +kernel) rfl rfl rfl (by decide +kernel)
set_option maxRecDepth 65536 in
theorem w_c38 : (Jvm.Cond.code ({ cls := "java/util/Objects", name := "requireNonNull", desc := "(Ljava/lang/Object;)Ljava/lang/Object;" } : Jvm.MethodName) jdk_31_method_10_code (1 : Nat) (Option.some (Jvm.ClassFile.FieldType.object "java/lang/Object"))).before args0 about1 = true := code_word (m := ⟨22, 1⟩) (meth := k22m1) (c := k22c1) (by decide +kernel) rfl rfl rfl (by decide +kernel)
set_option maxRecDepth 65536 in
theorem w_c39 : (Jvm.Cond.code ({ cls := "com/example/level_slate/levelslate/TopicCandidates", name := "getCandidate", desc := "(I)Ljava/lang/String;" } : Jvm.MethodName) prog_14_method_4_code (2 : Nat) (Option.some (Jvm.ClassFile.FieldType.object "java/lang/String"))).before args0 about1 = true := code_word (m := ⟨21, 1⟩) (meth := k21m1) (c := k21c1) (by decide +kernel) rfl rfl rfl (by decide +kernel)
set_option maxRecDepth 65536 in
theorem w_c40 : (Jvm.Cond.code ({ cls := "java/util/ImmutableCollections$List12", name := "get", desc := "(I)Ljava/lang/Object;" } : Jvm.MethodName) jdk_44_method_5_code (2 : Nat) (Option.some (Jvm.ClassFile.FieldType.object "java/lang/Object"))).before args0 about1 = true := code_word (m := ⟨27, 2⟩) (meth := k27m2) (c := k27c2) (by decide +kernel) rfl rfl rfl (by decide +kernel)
set_option maxRecDepth 65536 in
theorem w_c41 : (Jvm.Cond.code ({ cls := "java/lang/String", name := "equals", desc := "(Ljava/lang/Object;)Z" } : Jvm.MethodName) jdk_42_method_66_code (3 : Nat) (Option.some Jvm.ClassFile.FieldType.boolean)).before args0 about1 = true := code_word (m := ⟨7, 2⟩) (meth := k7m2) (c := k7c2) (by decide +kernel) rfl rfl rfl (by decide +kernel)
set_option maxRecDepth 65536 in
theorem w_c42 : (Jvm.Cond.code ({ cls := "java/util/ImmutableCollections", name := "listFromArray", desc := "([Ljava/lang/Object;)Ljava/util/List;" } : Jvm.MethodName) jdk_56_method_4_code (3 : Nat) (Option.some (Jvm.ClassFile.FieldType.object "java/util/List"))).before args0 about1 = true := code_word (m := ⟨24, 2⟩) (meth := k24m2) (c := k24c2) (by decide +kernel) rfl rfl rfl (by decide +kernel)
set_option maxRecDepth 65536 in
theorem w_c43 : (Jvm.Cond.code ({ cls := "java/util/ImmutableCollections$ListN", name := "<init>", desc := "([Ljava/lang/Object;Z)V" } : Jvm.MethodName) jdk_45_method_1_code (3 : Nat) (Option.none : Option Jvm.ClassFile.FieldType)).before args0 about1 = true := code_word (m := ⟨28, 0⟩) (meth := k28m0) (c := k28c0) (by decide +kernel) rfl rfl rfl (by decide +kernel)
set_option maxRecDepth 65536 in
theorem w_c44 : (Jvm.Cond.code ({ cls := "java/util/ImmutableCollections$ListN", name := "get", desc := "(I)Ljava/lang/Object;" } : Jvm.MethodName) jdk_45_method_4_code (2 : Nat) (Option.some (Jvm.ClassFile.FieldType.object "java/lang/Object"))).before args0 about1 = true := code_word (m := ⟨28, 1⟩) (meth := k28m1) (c := k28c1) (by decide +kernel) rfl rfl rfl (by decide +kernel)
set_option maxRecDepth 65536 in
theorem w_c45 : (Jvm.Cond.code ({ cls := "java/lang/StringUTF16", name := "compress", desc := "([CII)[B" } : Jvm.MethodName) jdk_52_method_16_code (6 : Nat) (Option.some (Jvm.ClassFile.FieldType.array Jvm.ClassFile.FieldType.byte))).before args0 about1 = true := code_word (m := ⟨31, 2⟩) (meth := k31m2) (c := k31c2) (by decide +kernel) rfl rfl rfl (by decide +kernel)
set_option maxRecDepth 65536 in
theorem w_c46 : (Jvm.Cond.code ({ cls := "java/lang/StringUTF16", name := "compress", desc := "([CI[BII)I" } : Jvm.MethodName) jdk_52_method_21_code (7 : Nat) (Option.some Jvm.ClassFile.FieldType.int)).before args0 about1 = true := code_word (m := ⟨31, 3⟩) (meth := k31m3) (c := k31c3) (by decide +kernel) rfl rfl rfl (by decide +kernel)
set_option maxRecDepth 65536 in
theorem w_c47 : (Jvm.Cond.code ({ cls := "java/lang/StringUTF16", name := "coderFromArrayLen", desc := "([BI)B" } : Jvm.MethodName) jdk_52_method_15_code (2 : Nat) (Option.some Jvm.ClassFile.FieldType.byte)).before args0 about1 = true := code_word (m := ⟨31, 1⟩) (meth := k31m1) (c := k31c1) (by decide +kernel) rfl rfl rfl (by decide +kernel)
set_option maxRecDepth 65536 in
theorem w_c48 : (Jvm.Cond.code ({ cls := "java/util/ImmutableCollections$List12", name := "<init>", desc := "(Ljava/lang/Object;)V" } : Jvm.MethodName) jdk_44_method_1_code (2 : Nat) (Option.none : Option Jvm.ClassFile.FieldType)).before args0 about1 = true := code_word (m := ⟨27, 0⟩) (meth := k27m0) (c := k27c0) (by decide +kernel) rfl rfl rfl (by decide +kernel)
def codes1 : List Jvm.Cond := [Jvm.Cond.code x code maxLocals ret, Jvm.Cond.code ({ cls := "com/example/level_slate/levelslate/TopicCandidatesGetCandidatePinLaw", name := "str", desc := "(I)Ljava/lang/String;" } : Jvm.MethodName) method_2_code (5 : Nat) (Option.some (Jvm.ClassFile.FieldType.object "java/lang/String")), Jvm.Cond.code ({ cls := "java/lang/String", name := "<init>", desc := "([C)V" } : Jvm.MethodName) jdk_42_method_3_code (2 : Nat) (Option.none : Option Jvm.ClassFile.FieldType), Jvm.Cond.code ({ cls := "java/lang/String", name := "<init>", desc := "([CIILjava/lang/Void;)V" } : Jvm.MethodName) jdk_42_method_149_code (6 : Nat) (Option.none : Option Jvm.ClassFile.FieldType), Jvm.Cond.code ({ cls := "java/lang/Object", name := "<init>", desc := "()V" } : Jvm.MethodName) object_method_1_code (1 : Nat) (Option.none : Option Jvm.ClassFile.FieldType), Jvm.Cond.code ({ cls := "java/util/ArrayList", name := "<init>", desc := "()V" } : Jvm.MethodName) jdk_38_method_2_code (1 : Nat) (Option.none : Option Jvm.ClassFile.FieldType), Jvm.Cond.code ({ cls := "java/util/AbstractList", name := "<init>", desc := "()V" } : Jvm.MethodName) jdk_39_method_1_code (1 : Nat) (Option.none : Option Jvm.ClassFile.FieldType), Jvm.Cond.code ({ cls := "java/util/AbstractCollection", name := "<init>", desc := "()V" } : Jvm.MethodName) jdk_22_method_1_code (1 : Nat) (Option.none : Option Jvm.ClassFile.FieldType), Jvm.Cond.code ({ cls := "java/util/ArrayList", name := "add", desc := "(Ljava/lang/Object;)Z" } : Jvm.MethodName) jdk_38_method_25_code (2 : Nat) (Option.some Jvm.ClassFile.FieldType.boolean), Jvm.Cond.code ({ cls := "java/util/ArrayList", name := "add", desc := "(Ljava/lang/Object;[Ljava/lang/Object;I)V" } : Jvm.MethodName) jdk_38_method_24_code (4 : Nat) (Option.none : Option Jvm.ClassFile.FieldType), Jvm.Cond.code ({ cls := "java/util/ArrayList", name := "grow", desc := "()[Ljava/lang/Object;" } : Jvm.MethodName) jdk_38_method_7_code (1 : Nat) (Option.some (Jvm.ClassFile.FieldType.array (Jvm.ClassFile.FieldType.object "java/lang/Object"))), Jvm.Cond.code ({ cls := "java/util/ArrayList", name := "grow", desc := "(I)[Ljava/lang/Object;" } : Jvm.MethodName) jdk_38_method_6_code (4 : Nat) (Option.some (Jvm.ClassFile.FieldType.array (Jvm.ClassFile.FieldType.object "java/lang/Object"))), Jvm.Cond.code ({ cls := "java/lang/Math", name := "max", desc := "(II)I" } : Jvm.MethodName) jdk_29_method_65_code (2 : Nat) (Option.some Jvm.ClassFile.FieldType.int), Jvm.Cond.code ({ cls := "java/lang/Double", name := "valueOf", desc := "(D)Ljava/lang/Double;" } : Jvm.MethodName) jdk_117_method_4_code (2 : Nat) (Option.some (Jvm.ClassFile.FieldType.object "java/lang/Double")), Jvm.Cond.code ({ cls := "java/lang/Double", name := "<init>", desc := "(D)V" } : Jvm.MethodName) jdk_117_method_9_code (3 : Nat) (Option.none : Option Jvm.ClassFile.FieldType), Jvm.Cond.code ({ cls := "java/lang/Number", name := "<init>", desc := "()V" } : Jvm.MethodName) jdk_18_method_1_code (1 : Nat) (Option.none : Option Jvm.ClassFile.FieldType), Jvm.Cond.code ({ cls := "java/lang/String", name := "valueOf", desc := "(C)Ljava/lang/String;" } : Jvm.MethodName) jdk_42_method_139_code (1 : Nat) (Option.some (Jvm.ClassFile.FieldType.object "java/lang/String")), Jvm.Cond.code ({ cls := "java/lang/StringLatin1", name := "canEncode", desc := "(C)Z" } : Jvm.MethodName) jdk_43_method_3_code (1 : Nat) (Option.some Jvm.ClassFile.FieldType.boolean), Jvm.Cond.code ({ cls := "java/lang/StringLatin1", name := "toBytes", desc := "(C)[B" } : Jvm.MethodName) jdk_43_method_46_code (1 : Nat) (Option.some (Jvm.ClassFile.FieldType.array Jvm.ClassFile.FieldType.byte)), Jvm.Cond.code ({ cls := "java/lang/String", name := "<init>", desc := "([BB)V" } : Jvm.MethodName) jdk_42_method_151_code (3 : Nat) (Option.none : Option Jvm.ClassFile.FieldType), Jvm.Cond.code ({ cls := "com/example/level_slate/levelslate/TopicCandidates", name := "<init>", desc := "(Ljava/lang/String;Ljava/util/List;Ljava/util/List;)V" } : Jvm.MethodName) prog_14_method_1_code (6 : Nat) (Option.none : Option Jvm.ClassFile.FieldType), Jvm.Cond.code ({ cls := "java/util/ArrayList", name := "size", desc := "()I" } : Jvm.MethodName) jdk_38_method_8_code (1 : Nat) (Option.some Jvm.ClassFile.FieldType.int), Jvm.Cond.code ({ cls := "java/util/ArrayList", name := "get", desc := "(I)Ljava/lang/Object;" } : Jvm.MethodName) jdk_38_method_20_code (2 : Nat) (Option.some (Jvm.ClassFile.FieldType.object "java/lang/Object")), Jvm.Cond.code ({ cls := "java/util/Objects", name := "checkIndex", desc := "(II)I" } : Jvm.MethodName) jdk_31_method_17_code (2 : Nat) (Option.some Jvm.ClassFile.FieldType.int), Jvm.Cond.code ({ cls := "jdk/internal/util/Preconditions", name := "checkIndex", desc := "(IILjava/util/function/BiFunction;)I" } : Jvm.MethodName) jdk_41_method_11_code (3 : Nat) (Option.some Jvm.ClassFile.FieldType.int), Jvm.Cond.code ({ cls := "java/util/ArrayList", name := "elementData", desc := "(I)Ljava/lang/Object;" } : Jvm.MethodName) jdk_38_method_18_code (2 : Nat) (Option.some (Jvm.ClassFile.FieldType.object "java/lang/Object")), Jvm.Cond.code ({ cls := "java/lang/Double", name := "doubleValue", desc := "()D" } : Jvm.MethodName) jdk_117_method_19_code (1 : Nat) (Option.some Jvm.ClassFile.FieldType.double), Jvm.Cond.code ({ cls := "java/util/List", name := "copyOf", desc := "(Ljava/util/Collection;)Ljava/util/List;" } : Jvm.MethodName) jdk_40_method_48_code (1 : Nat) (Option.some (Jvm.ClassFile.FieldType.object "java/util/List")), Jvm.Cond.code ({ cls := "java/util/ImmutableCollections", name := "listCopy", desc := "(Ljava/util/Collection;)Ljava/util/List;" } : Jvm.MethodName) jdk_56_method_3_code (2 : Nat) (Option.some (Jvm.ClassFile.FieldType.object "java/util/List")), Jvm.Cond.code ({ cls := "java/util/ArrayList", name := "isEmpty", desc := "()Z" } : Jvm.MethodName) jdk_38_method_9_code (1 : Nat) (Option.some Jvm.ClassFile.FieldType.boolean), Jvm.Cond.code ({ cls := "java/util/ArrayList", name := "toArray", desc := "()[Ljava/lang/Object;" } : Jvm.MethodName) jdk_38_method_16_code (1 : Nat) (Option.some (Jvm.ClassFile.FieldType.array (Jvm.ClassFile.FieldType.object "java/lang/Object"))), Jvm.Cond.code ({ cls := "java/util/Arrays", name := "copyOf", desc := "([Ljava/lang/Object;I)[Ljava/lang/Object;" } : Jvm.MethodName) jdk_65_method_119_code (2 : Nat) (Option.some (Jvm.ClassFile.FieldType.array (Jvm.ClassFile.FieldType.object "java/lang/Object"))), Jvm.Cond.code ({ cls := "java/util/Arrays", name := "copyOf", desc := "([Ljava/lang/Object;ILjava/lang/Class;)[Ljava/lang/Object;" } : Jvm.MethodName) jdk_65_method_120_code (4 : Nat) (Option.some (Jvm.ClassFile.FieldType.array (Jvm.ClassFile.FieldType.object "java/lang/Object"))), Jvm.Cond.code ({ cls := "java/lang/Math", name := "min", desc := "(II)I" } : Jvm.MethodName) jdk_29_method_69_code (2 : Nat) (Option.some Jvm.ClassFile.FieldType.int), Jvm.Cond.code ({ cls := "java/util/List", name := "of", desc := "([Ljava/lang/Object;)Ljava/util/List;" } : Jvm.MethodName) jdk_40_method_47_code (2 : Nat) (Option.some (Jvm.ClassFile.FieldType.object "java/util/List")), Jvm.Cond.code ({ cls := "java/util/ImmutableCollections$List12", name := "<init>", desc := "(Ljava/lang/Object;Ljava/lang/Object;)V" } : Jvm.MethodName) jdk_44_method_2_code (3 : Nat) (Option.none : Option Jvm.ClassFile.FieldType), Jvm.Cond.code ({ cls := "java/util/ImmutableCollections$AbstractImmutableList", name := "<init>", desc := "()V" } : Jvm.MethodName) jdk_46_method_1_code (1 : Nat) (Option.none : Option Jvm.ClassFile.FieldType), Jvm.Cond.code ({ cls := "java/util/ImmutableCollections$AbstractImmutableCollection", name := "<init>", desc := "()V" } : Jvm.MethodName) jdk_47_method_1_code (1 : Nat) (Option.none : Option Jvm.ClassFile.FieldType), Jvm.Cond.code ({ cls := "java/util/Objects", name := "requireNonNull", desc := "(Ljava/lang/Object;)Ljava/lang/Object;" } : Jvm.MethodName) jdk_31_method_10_code (1 : Nat) (Option.some (Jvm.ClassFile.FieldType.object "java/lang/Object")), Jvm.Cond.code ({ cls := "com/example/level_slate/levelslate/TopicCandidates", name := "getCandidate", desc := "(I)Ljava/lang/String;" } : Jvm.MethodName) prog_14_method_4_code (2 : Nat) (Option.some (Jvm.ClassFile.FieldType.object "java/lang/String")), Jvm.Cond.code ({ cls := "java/util/ImmutableCollections$List12", name := "get", desc := "(I)Ljava/lang/Object;" } : Jvm.MethodName) jdk_44_method_5_code (2 : Nat) (Option.some (Jvm.ClassFile.FieldType.object "java/lang/Object")), Jvm.Cond.code ({ cls := "java/lang/String", name := "equals", desc := "(Ljava/lang/Object;)Z" } : Jvm.MethodName) jdk_42_method_66_code (3 : Nat) (Option.some Jvm.ClassFile.FieldType.boolean), Jvm.Cond.code ({ cls := "java/util/ImmutableCollections", name := "listFromArray", desc := "([Ljava/lang/Object;)Ljava/util/List;" } : Jvm.MethodName) jdk_56_method_4_code (3 : Nat) (Option.some (Jvm.ClassFile.FieldType.object "java/util/List")), Jvm.Cond.code ({ cls := "java/util/ImmutableCollections$ListN", name := "<init>", desc := "([Ljava/lang/Object;Z)V" } : Jvm.MethodName) jdk_45_method_1_code (3 : Nat) (Option.none : Option Jvm.ClassFile.FieldType), Jvm.Cond.code ({ cls := "java/util/ImmutableCollections$ListN", name := "get", desc := "(I)Ljava/lang/Object;" } : Jvm.MethodName) jdk_45_method_4_code (2 : Nat) (Option.some (Jvm.ClassFile.FieldType.object "java/lang/Object")), Jvm.Cond.code ({ cls := "java/lang/StringUTF16", name := "compress", desc := "([CII)[B" } : Jvm.MethodName) jdk_52_method_16_code (6 : Nat) (Option.some (Jvm.ClassFile.FieldType.array Jvm.ClassFile.FieldType.byte)), Jvm.Cond.code ({ cls := "java/lang/StringUTF16", name := "compress", desc := "([CI[BII)I" } : Jvm.MethodName) jdk_52_method_21_code (7 : Nat) (Option.some Jvm.ClassFile.FieldType.int), Jvm.Cond.code ({ cls := "java/lang/StringUTF16", name := "coderFromArrayLen", desc := "([BI)B" } : Jvm.MethodName) jdk_52_method_15_code (2 : Nat) (Option.some Jvm.ClassFile.FieldType.byte), Jvm.Cond.code ({ cls := "java/util/ImmutableCollections$List12", name := "<init>", desc := "(Ljava/lang/Object;)V" } : Jvm.MethodName) jdk_44_method_1_code (2 : Nat) (Option.none : Option Jvm.ClassFile.FieldType)]
set_option maxRecDepth 65536 in
theorem codes_eq : words1.filter isCode = codes1 := rfl
theorem w_codes : ∀ c ∈ words1.filter isCode, c.before args0 about1 = true := by
  rw [codes_eq]
  intro c hc
  simp only [codes1, List.mem_cons, List.not_mem_nil, or_false] at hc
  rcases hc with rfl | rfl | rfl | rfl | rfl | rfl | rfl | rfl | rfl | rfl | rfl | rfl | rfl | rfl | rfl | rfl | rfl | rfl | rfl | rfl | rfl | rfl | rfl | rfl | rfl | rfl | rfl | rfl | rfl | rfl | rfl | rfl | rfl | rfl | rfl | rfl | rfl | rfl | rfl | rfl | rfl | rfl | rfl | rfl | rfl | rfl | rfl | rfl | rfl
  · exact w_c0
  · exact w_c1
  · exact w_c2
  · exact w_c3
  · exact w_c4
  · exact w_c5
  · exact w_c6
  · exact w_c7
  · exact w_c8
  · exact w_c9
  · exact w_c10
  · exact w_c11
  · exact w_c12
  · exact w_c13
  · exact w_c14
  · exact w_c15
  · exact w_c16
  · exact w_c17
  · exact w_c18
  · exact w_c19
  · exact w_c20
  · exact w_c21
  · exact w_c22
  · exact w_c23
  · exact w_c24
  · exact w_c25
  · exact w_c26
  · exact w_c27
  · exact w_c28
  · exact w_c29
  · exact w_c30
  · exact w_c31
  · exact w_c32
  · exact w_c33
  · exact w_c34
  · exact w_c35
  · exact w_c36
  · exact w_c37
  · exact w_c38
  · exact w_c39
  · exact w_c40
  · exact w_c41
  · exact w_c42
  · exact w_c43
  · exact w_c44
  · exact w_c45
  · exact w_c46
  · exact w_c47
  · exact w_c48
set_option maxRecDepth 65536 in
theorem w_t1 : (words1.take 24).all (fun c => isCode c || c.before args0 about1) = true := by decide +kernel
set_option maxRecDepth 65536 in
theorem w_t2 : ((words1.drop 24).take 24).all (fun c => isCode c || c.before args0 about1) = true := by decide +kernel
set_option maxRecDepth 65536 in
theorem w_t3 : (((words1.drop 24).drop 24).take 24).all (fun c => isCode c || c.before args0 about1) = true := by decide +kernel
set_option maxRecDepth 65536 in
theorem w_t4 : ((((words1.drop 24).drop 24).drop 24).take 24).all (fun c => isCode c || c.before args0 about1) = true := by decide +kernel
set_option maxRecDepth 65536 in
theorem w_t5 : (((((words1.drop 24).drop 24).drop 24).drop 24).take 24).all (fun c => isCode c || c.before args0 about1) = true := by decide +kernel
set_option maxRecDepth 65536 in
theorem w_t6 : ((((((words1.drop 24).drop 24).drop 24).drop 24).drop 24).take 24).all (fun c => isCode c || c.before args0 about1) = true := by decide +kernel
set_option maxRecDepth 65536 in
theorem w_t7 : (((((((words1.drop 24).drop 24).drop 24).drop 24).drop 24).drop 24).take 24).all (fun c => isCode c || c.before args0 about1) = true := by decide +kernel
set_option maxRecDepth 65536 in
theorem w_t8 : ((((((((words1.drop 24).drop 24).drop 24).drop 24).drop 24).drop 24).drop 24).take 24).all (fun c => isCode c || c.before args0 about1) = true := by decide +kernel
set_option maxRecDepth 65536 in
theorem w_t9 : (((((((((words1.drop 24).drop 24).drop 24).drop 24).drop 24).drop 24).drop 24).drop 24).take 24).all (fun c => isCode c || c.before args0 about1) = true := by decide +kernel
set_option maxRecDepth 65536 in
theorem w_t10 : ((((((((((words1.drop 24).drop 24).drop 24).drop 24).drop 24).drop 24).drop 24).drop 24).drop 24).take 24).all (fun c => isCode c || c.before args0 about1) = true := by decide +kernel
set_option maxRecDepth 65536 in
theorem w_t11 : (((((((((((words1.drop 24).drop 24).drop 24).drop 24).drop 24).drop 24).drop 24).drop 24).drop 24).drop 24).take 24).all (fun c => isCode c || c.before args0 about1) = true := by decide +kernel
set_option maxRecDepth 65536 in
theorem w_t12 : ((((((((((((words1.drop 24).drop 24).drop 24).drop 24).drop 24).drop 24).drop 24).drop 24).drop 24).drop 24).drop 24).take 24).all (fun c => isCode c || c.before args0 about1) = true := by decide +kernel
set_option maxRecDepth 65536 in
theorem w_t13 : ((((((((((((words1.drop 24).drop 24).drop 24).drop 24).drop 24).drop 24).drop 24).drop 24).drop 24).drop 24).drop 24).drop 24).all (fun c => isCode c || c.before args0 about1) = true := by decide +kernel
theorem w_tables : (allAtoms (Jvm.Cond.code x code maxLocals ret :: tables_1)).before args0 about1 = true := by
  rw [allAtoms_all]
  show words1.all (fun c => c.before args0 about1) = true
  refine all_split ?_ w_codes
  rw [← List.take_append_drop 24 words1, List.all_append, w_t1, ← List.take_append_drop 24 (words1.drop 24), List.all_append, w_t2, ← List.take_append_drop 24 ((words1.drop 24).drop 24), List.all_append, w_t3, ← List.take_append_drop 24 (((words1.drop 24).drop 24).drop 24), List.all_append, w_t4, ← List.take_append_drop 24 ((((words1.drop 24).drop 24).drop 24).drop 24), List.all_append, w_t5, ← List.take_append_drop 24 (((((words1.drop 24).drop 24).drop 24).drop 24).drop 24), List.all_append, w_t6, ← List.take_append_drop 24 ((((((words1.drop 24).drop 24).drop 24).drop 24).drop 24).drop 24), List.all_append, w_t7, ← List.take_append_drop 24 (((((((words1.drop 24).drop 24).drop 24).drop 24).drop 24).drop 24).drop 24), List.all_append, w_t8, ← List.take_append_drop 24 ((((((((words1.drop 24).drop 24).drop 24).drop 24).drop 24).drop 24).drop 24).drop 24), List.all_append, w_t9, ← List.take_append_drop 24 (((((((((words1.drop 24).drop 24).drop 24).drop 24).drop 24).drop 24).drop 24).drop 24).drop 24), List.all_append, w_t10, ← List.take_append_drop 24 ((((((((((words1.drop 24).drop 24).drop 24).drop 24).drop 24).drop 24).drop 24).drop 24).drop 24).drop 24), List.all_append, w_t11, ← List.take_append_drop 24 (((((((((((words1.drop 24).drop 24).drop 24).drop 24).drop 24).drop 24).drop 24).drop 24).drop 24).drop 24).drop 24), List.all_append, w_t12, w_t13]
  rfl
set_option maxRecDepth 65536 in
theorem w_rest : rest_1_c.before args0 about1 = true := by decide +kernel
set_option maxRecDepth 65536 in
theorem w_case : (Jvm.Cond.and given_1 narrow_1).before args0 about1 = true := by decide +kernel
set_option maxRecDepth 65536 in
theorem w_consts : constsHeld consts_1 about1 := Jvm.Lit.constsHeldB_iff.mp (by decide +kernel)
theorem w_applies : (headSpec (Jvm.Cond.code x code maxLocals ret :: tables_1) room_1).applies x e0.platform about1 = true :=
  (Spec.applies_iff w_frames).mpr ⟨w_running, w_runnable, w_alone, w_named, w_hears, w_ripe, w_room, w_tables⟩
theorem atStart : AtStart classFile x code maxLocals ret World_1 tables_1 room_1 Calls_1 rest_1 Pre_1 launch0 p0 e0 about1 theMethod args0 below0 :=
  ⟨lists_1, trivial, launch0.admits_env _ _ _, launch0.least_env, fairChoices_fair.cas, fairChoices_fair.clock, w_frames, w_args, w_heap, w_applies, ⟨⟨42, k42, 4, by decide +kernel, rfl, rfl, _, rfl, rfl⟩, ⟨w_consts, trivial⟩⟩, w_rest, w_case⟩
end start1
theorem witness_1 : WitnessClaimed_1 := ⟨start1.p0, start1.e0, start1.about1, start1.theMethod, start1.args0, start1.below0, start1.atStart⟩
end Jvm.Pilot.@@N@@
