import JvmDerived
import JvmDerived.Pilot.@@N@@Statement
import JvmDerived.Pilot.@@N@@Code
set_option linter.unusedVariables false
set_option linter.unusedSimpArgs false
/- laws to paste: Road.backV, Road.lenW, Road.chN, Road.codOf (cut by pick.py; bodies as the Statement names them) -/
namespace Jvm.Pilot.@@N@@
namespace StrChars
open Jvm Sem ClassFile Op Lib Jvm.Stand Jvm.Free.XT Jvm.Free.ALB Jvm.Free.JM Jvm.Free
open Jvm.Lib.Cold (StaticIs)
/-- a char array whose places are chars -/
def Ch (a : Addr) (A : Cell) (U : State) : Prop := Arr .char a A U ∧ Typed .char A
theorem Ch.mv {a : Addr} {A : Cell} {U U' : State} (h : Ch a A U) (hal : U.vm.Alike U'.vm) (hh : U'.heap = U.heap) : Ch a A U' := ⟨h.1.mv hal hh, h.2⟩
theorem Ch.keep {a : Addr} {A : Cell} {U U' : State} (h : Ch a A U) (hal : U.vm.Alike U'.vm) (hk : U'.heap[a]? = some A) : Ch a A U' := ⟨h.1.keep hal hk, h.2⟩
/-- what place i of a char[]'s cell holds -/
def cv (A : Cell) (i : Nat) : Int32 := match A.slots[i]? with | some (.int x) => x | _ => 0
theorem Ch.get {a : Addr} {A : Cell} {U : State} (h : Ch a A U) {i : Nat} (hi : i < A.slots.size) : A.slots[i]? = some (.int (cv A i)) := by
  have e := Array.getElem?_eq_getElem hi
  have f := h.2 i _ e
  unfold cv; rw [e]
  generalize A.slots[i] = v at f
  cases v <;> simp [fits] at f ⊢
/-- the byte that i2b leaves of a char -/
def lo8 (x : Int32) : Int32 := x.toInt8.toInt32
theorem fits_lo8 (y : Int32) : fits .byte (.int (lo8 y)) = true := by
  have h1 := y.toInt8.le_toInt
  have h2 := y.toInt8.toInt_lt
  simp only [lo8, fits, Bool.and_eq_true, decide_eq_true_eq, Int32.le_iff_toInt_le, Int8.toInt_toInt32, show (-128 : Int32).toInt = -128 from by decide, show (127 : Int32).toInt = 127 from by decide]
  omega
/-- A' is A but that each place j of lo .. hi - 1 holds f j -/
def Laid (A A' : Cell) (lo hi : Nat) (f : Nat → Value) : Prop := A'.cls = A.cls ∧ A'.vm = A.vm ∧ A'.slots.size = A.slots.size ∧ ∀ i, A'.slots[i]? = if lo ≤ i ∧ i < hi then some (f i) else A.slots[i]?
theorem Laid.zero (A : Cell) (lo : Nat) (f : Nat → Value) : Laid A A lo (lo + 0) f := ⟨rfl, rfl, rfl, fun i => by rw [if_neg (by omega)]⟩
theorem Laid.step {A Ak : Cell} {lo k : Nat} {f : Nat → Value} {v : Value} (h : Laid A Ak lo k f) (hlo : lo ≤ k) (hk : k < Ak.slots.size) (hv : v = f k) : Laid A (Ak.setSlot k v) lo (k + 1) f := by
  refine ⟨h.1, h.2.1, by simpa [Cell.setSlot] using h.2.2.1, fun i => ?_⟩
  by_cases e : k = i
  · subst e; rw [Cell.slots_setSlot_self v hk, if_pos (by omega), hv]
  · rw [Cell.slots_setSlot_ne v e, h.2.2.2 i]
    by_cases q : lo ≤ i ∧ i < k
    · rw [if_pos q, if_pos (by omega)]
    · rw [if_neg q, if_neg (by omega)]
def U16 : String := "java/lang/StringUTF16"
namespace Cmp5
def yN : MethodName := ⟨"java/lang/StringUTF16", "compress", "([CI[BII)I"⟩
abbrev yB : ByteArray := jdk_52_method_21_code
theorem d0 : decode yB 0 = .ok (.iconst 0, 1) := by decide +kernel
theorem d1 : decode yB 1 = .ok (.istore 5, 2) := by decide +kernel
theorem d3 : decode yB 3 = .ok (.iload 5, 2) := by decide +kernel
theorem d5 : decode yB 5 = .ok (.iload 4, 2) := by decide +kernel
theorem d7 : decode yB 7 = .ok (.if_icmp (.ge) 37, 3) := by decide +kernel
theorem d10 : decode yB 10 = .ok (.aload_n 0, 1) := by decide +kernel
theorem d11 : decode yB 11 = .ok (.iload_n 1, 1) := by decide +kernel
theorem d12 : decode yB 12 = .ok (.caload, 1) := by decide +kernel
theorem d13 : decode yB 13 = .ok (.istore 6, 2) := by decide +kernel
theorem d15 : decode yB 15 = .ok (.iload 6, 2) := by decide +kernel
theorem d17 : decode yB 17 = .ok (.sipush 255, 3) := by decide +kernel
theorem d20 : decode yB 20 = .ok (.if_icmp (.le) 6, 3) := by decide +kernel
theorem d26 : decode yB 26 = .ok (.aload_n 2, 1) := by decide +kernel
theorem d27 : decode yB 27 = .ok (.iload_n 3, 1) := by decide +kernel
theorem d28 : decode yB 28 = .ok (.iload 6, 2) := by decide +kernel
theorem d30 : decode yB 30 = .ok (.i2b, 1) := by decide +kernel
theorem d31 : decode yB 31 = .ok (.bastore, 1) := by decide +kernel
theorem d32 : decode yB 32 = .ok (.iinc 1 1, 3) := by decide +kernel
theorem d35 : decode yB 35 = .ok (.iinc 3 1, 3) := by decide +kernel
theorem d38 : decode yB 38 = .ok (.iinc 5 1, 3) := by decide +kernel
theorem d41 : decode yB 41 = .ok (.goto (-38), 3) := by decide +kernel
theorem d44 : decode yB 44 = .ok (.iload 4, 2) := by decide +kernel
theorem d46 : decode yB 46 = .ok (.ireturn, 1) := by decide +kernel
def site : List Cond := []
def tab : Cond := tabOf yN yB 7 (some .int) site
def P (b : Addr) (A : Cell) (d : Addr) (B : Cell) (o q len : Nat) (args : Array Value) (s : State) : Prop := args = #[.ref b, .int (Int32.ofNat o), .ref d, .int (Int32.ofNat q), .int (Int32.ofNat len)] ∧ Ch b A s ∧ Arr .byte d B s ∧ b ≠ d ∧ o + len ≤ A.slots.size ∧ q + len ≤ B.slots.size ∧ ∀ i, i < len → ¬ 255 < cv A (o + i)
def E (b : Addr) (A : Cell) (d : Addr) (B : Cell) (o q len : Nat) (r : Option Value) (s u : State) : Prop := r = some (.int (Int32.ofNat len)) ∧ ∃ B', Put d B' s u ∧ Laid B B' q (q + len) (fun j => Value.int (lo8 (cv A (o + (j - q)))))
/-- no char of the range above 255: len; the places written hold each char's low byte -/
theorem law (l : Launch) (b : Addr) (A : Cell) (d : Addr) (B : Cell) (o q len : Nat) : Law l yN 5 5 0 0 yB 7 (some .int) site (P b A d B o q len) (E b A d B o q len) (copyLocs d q len) 0 0 := by
  refine Law.of_walk (plainFor_of_name (by decide +kernel)) (by decide +kernel) (by decide +kernel) (by decide) (fun _ _ h => by rw [h.1]; rfl) (fun _ U U' hal hh h => ⟨h.1, h.2.1.mv hal hh, h.2.2.1.mv hal hh, h.2.2.2⟩) (fun r U U' V V' h1 hal h2 h => ⟨h.1, h.2.elim fun B' q => ⟨B', q.1.mv h1 h2, q.2⟩⟩) ?_
  intro p e s m args below meth c s₁ X0 hexec hbytes hml hret hlk hnm hown hh0 W hP
  obtain ⟨rfl, hA, hB, hne, l1, l2, hp⟩ := hP
  have c1 : Steps p.tables e below (s₁.setTop (entryFrame m #[.ref b, .int (Int32.ofNat o), .ref d, .int (Int32.ofNat q), .int (Int32.ofNat len)] 7)) (s₁.setTop (mkF m 0 #[.val (.ref b), .val (.int (Int32.ofNat o)), .val (.ref d), .val (.int (Int32.ofNat q)), .val (.int (Int32.ofNat len)), .unset, .unset] [])) := entry rfl
  have hA0 := hA.1.mv X0.warmed.alike hh0
  have hB0 := hB.mv X0.warmed.alike hh0
  have a31 := hA.1.2.2.2
  have c2 : Steps p.tables e below (s₁.setTop (entryFrame m #[.ref b, .int (Int32.ofNat o), .ref d, .int (Int32.ofNat q), .int (Int32.ofNat len)] 7)) (s₁.setTop (mkF m 3 #[.val (.ref b), .val (.int (Int32.ofNat o)), .val (.ref d), .val (.int (Int32.ofNat q)), .val (.int (Int32.ofNat len)), .val (.int 0), .unset] [])) := c1.trans (by
    refine iconstV X0.here hexec rfl 0 (hb hbytes d0) (by decide) ?_
    refine XS.istore X0.here hexec rfl (hb hbytes d1) rfl rfl ?_
    exact Steps.refl _)
  have loop : ∀ (r i : Nat), i + r = len → ∀ (z : Slot), (z = .unset ∨ ∃ w, z = .val w ∧ w.category = 1) → ∀ (Tl : State) (Bk : Cell), Stand p l e { frames := 0, locals := 0, cells := 0, slots := 0 } s m #[.ref b, .int (Int32.ofNat o), .ref d, .int (Int32.ofNat q), .int (Int32.ofNat len)] below meth c Tl ([] ++ copyLocs d q i) 0 0 → Put d Bk s₁ Tl → Laid B Bk q (q + i) (fun j => Value.int (lo8 (cv A (o + (j - q))))) →
      Steps p.tables e below (s₁.setTop (entryFrame m #[.ref b, .int (Int32.ofNat o), .ref d, .int (Int32.ofNat q), .int (Int32.ofNat len)] 7)) (Tl.setTop (mkF m 3 #[.val (.ref b), .val (.int (Int32.ofNat (o + i))), .val (.ref d), .val (.int (Int32.ofNat (q + i))), .val (.int (Int32.ofNat len)), .val (.int (Int32.ofNat i)), z] [])) → ∃ (T' : State) (B' : Cell) (z' : Slot), Stand p l e { frames := 0, locals := 0, cells := 0, slots := 0 } s m #[.ref b, .int (Int32.ofNat o), .ref d, .int (Int32.ofNat q), .int (Int32.ofNat len)] below meth c T' ([] ++ copyLocs d q len) 0 0 ∧ Put d B' s₁ T' ∧ Laid B B' q (q + len) (fun j => Value.int (lo8 (cv A (o + (j - q))))) ∧
      Steps p.tables e below (s₁.setTop (entryFrame m #[.ref b, .int (Int32.ofNat o), .ref d, .int (Int32.ofNat q), .int (Int32.ofNat len)] 7)) (T'.setTop (mkF m 3 #[.val (.ref b), .val (.int (Int32.ofNat (o + len))), .val (.ref d), .val (.int (Int32.ofNat (q + len))), .val (.int (Int32.ofNat len)), .val (.int (Int32.ofNat len)), z'] [])) := by
    intro r
    induction r with
    | zero =>
      intro i hi z hz Tl Bk Xl pl fl cl
      have hil : i = len := by omega
      rw [hil] at Xl fl cl
      exact ⟨Tl, Bk, z, Xl, pl, fl, cl⟩
    | succ r ih =>
      intro i hi z hz Tl Bk Xl pl fl cl
      have all := X0.warmed.alike.symm.trans Xl.warmed.alike
      have hAl := hA0.keep all (pl.other hne hA0.1)
      have hBk := hB0.like all pl.1 fl.1 fl.2.1 fl.2.2.1
      have hlt : q + i < Bk.slots.size := by rw [fl.2.2.1]; omega
      have c3 : Steps p.tables e below (s₁.setTop (entryFrame m #[.ref b, .int (Int32.ofNat o), .ref d, .int (Int32.ofNat q), .int (Int32.ofNat len)] 7)) (Tl.setTop (mkF m 12 #[.val (.ref b), .val (.int (Int32.ofNat (o + i))), .val (.ref d), .val (.int (Int32.ofNat (q + i))), .val (.int (Int32.ofNat len)), .val (.int (Int32.ofNat i)), z] [.int (Int32.ofNat (o + i)), .ref b])) := cl.trans (by
        refine XS.iload Xl.here hexec rfl (hb hbytes d3) rfl ?_
        refine XS.iload Xl.here hexec rfl (hb hbytes d5) rfl ?_
        refine XS.icmpNo Xl.here hexec rfl (hb hbytes d7) rfl (ii_ge_f (lt32 (by omega) (by omega))) ?_
        refine XS.aloadN Xl.here hexec rfl (hb hbytes d10) rfl rfl ?_
        refine XS.iloadN Xl.here hexec rfl (hb hbytes d11) rfl ?_
        exact Steps.refl _)
      have c4 : Steps p.tables e below (s₁.setTop (entryFrame m #[.ref b, .int (Int32.ofNat o), .ref d, .int (Int32.ofNat q), .int (Int32.ofNat len)] 7)) (Tl.setTop (mkF m 13 #[.val (.ref b), .val (.int (Int32.ofNat (o + i))), .val (.ref d), .val (.int (Int32.ofNat (q + i))), .val (.int (Int32.ofNat len)), .val (.int (Int32.ofNat i)), z] [.int (cv A (o + i))])) := c3.trans (by
        refine Xl.aget hexec hAl rfl (hA.get (i := o + i) (by omega)) rfl rfl (hb hbytes d12) ?_
        exact Steps.refl _)
      have c5 : Steps p.tables e below (s₁.setTop (entryFrame m #[.ref b, .int (Int32.ofNat o), .ref d, .int (Int32.ofNat q), .int (Int32.ofNat len)] 7)) (Tl.setTop (mkF m 15 #[.val (.ref b), .val (.int (Int32.ofNat (o + i))), .val (.ref d), .val (.int (Int32.ofNat (q + i))), .val (.int (Int32.ofNat len)), .val (.int (Int32.ofNat i)), .val (.int (cv A (o + i)))] [])) := c4.trans (by
        refine XS.istoreS Xl.here hexec rfl (hb hbytes d13) rfl rfl hz ?_
        exact Steps.refl _)
      have c6 : Steps p.tables e below (s₁.setTop (entryFrame m #[.ref b, .int (Int32.ofNat o), .ref d, .int (Int32.ofNat q), .int (Int32.ofNat len)] 7)) (Tl.setTop (mkF m 31 #[.val (.ref b), .val (.int (Int32.ofNat (o + i))), .val (.ref d), .val (.int (Int32.ofNat (q + i))), .val (.int (Int32.ofNat len)), .val (.int (Int32.ofNat i)), .val (.int (cv A (o + i)))] [.int (lo8 (cv A (o + i))), .int (Int32.ofNat (q + i)), .ref d])) := c5.trans (by
        refine XS.iload Xl.here hexec rfl (hb hbytes d15) rfl ?_
        refine sipushV Xl.here hexec rfl 255 (hb hbytes d17) (by decide) ?_
        refine XS.icmpYes Xl.here hexec rfl (pc0 := 20) rfl (hb hbytes d20) rfl (ii_le_t (hp i (by omega))) (by decide) rfl ?_
        refine XS.aloadN Xl.here hexec rfl (hb hbytes d26) rfl rfl ?_
        refine XS.iloadN Xl.here hexec rfl (hb hbytes d27) rfl ?_
        refine XS.iload Xl.here hexec rfl (hb hbytes d28) rfl ?_
        refine i2b Xl.here hexec rfl (hb hbytes d30) rfl ?_
        exact Steps.refl _)
      obtain ⟨T7, X7, p7, st7⟩ := Xl.aput hexec hBk rfl hlt rfl (fits_lo8 (cv A (o + i))) (g := (mkF m 31 #[.val (.ref b), .val (.int (Int32.ofNat (o + i))), .val (.ref d), .val (.int (Int32.ofNat (q + i))), .val (.int (Int32.ofNat len)), .val (.int (Int32.ofNat i)), .val (.int (cv A (o + i)))] [.int (lo8 (cv A (o + i))), .int (Int32.ofNat (q + i)), .ref d])) rfl (rest := []) rfl (hb hbytes d31)
      have c8 : Steps p.tables e below (s₁.setTop (entryFrame m #[.ref b, .int (Int32.ofNat o), .ref d, .int (Int32.ofNat q), .int (Int32.ofNat len)] 7)) (T7.setTop (mkF m 32 #[.val (.ref b), .val (.int (Int32.ofNat (o + i))), .val (.ref d), .val (.int (Int32.ofNat (q + i))), .val (.int (Int32.ofNat len)), .val (.int (Int32.ofNat i)), .val (.int (cv A (o + i)))] [])) := c6.trans (st7 _ (Steps.refl _))
      have c9 : Steps p.tables e below (s₁.setTop (entryFrame m #[.ref b, .int (Int32.ofNat o), .ref d, .int (Int32.ofNat q), .int (Int32.ofNat len)] 7)) (T7.setTop (mkF m 3 #[.val (.ref b), .val (.int (Int32.ofNat (o + i) + 1)), .val (.ref d), .val (.int (Int32.ofNat (q + i) + 1)), .val (.int (Int32.ofNat len)), .val (.int (Int32.ofNat i + 1)), .val (.int (cv A (o + i)))] [])) := c8.trans (by
        refine iincV X7.here hexec rfl 1 (hb hbytes d32) (by decide) rfl rfl ?_
        refine iincV X7.here hexec rfl 1 (hb hbytes d35) (by decide) rfl rfl ?_
        refine iincV X7.here hexec rfl 1 (hb hbytes d38) (by decide) rfl rfl ?_
        refine XS.goto X7.here hexec rfl (pc0 := 41) rfl (hb hbytes d41) (by decide) rfl ?_
        exact Steps.refl _)
      have c10 : Steps p.tables e below (s₁.setTop (entryFrame m #[.ref b, .int (Int32.ofNat o), .ref d, .int (Int32.ofNat q), .int (Int32.ofNat len)] 7)) (T7.setTop (mkF m 3 #[.val (.ref b), .val (.int (Int32.ofNat (o + (i + 1)))), .val (.ref d), .val (.int (Int32.ofNat (q + (i + 1)))), .val (.int (Int32.ofNat len)), .val (.int (Int32.ofNat (i + 1))), .val (.int (cv A (o + i)))] [])) := by
        have := c9
        rw [succ32, succ32, succ32] at this
        exact this
      exact ih (i + 1) (by omega) _ (Or.inr ⟨_, rfl, rfl⟩) T7 _ (by rw [copyLocs_step, ← List.append_assoc]; exact X7) (pl.trans p7) (fl.step (by omega) hlt (by simp)) c10
  obtain ⟨T9, B9, z9, X9, p9, f9, g9⟩ := loop len 0 (by omega) .unset (Or.inl rfl) s₁ B (by simpa [copyLocs] using X0) ⟨hB0.1, fun _ _ => rfl, rfl⟩ (Laid.zero _ _ _) c2
  have c11 : Steps p.tables e below (s₁.setTop (entryFrame m #[.ref b, .int (Int32.ofNat o), .ref d, .int (Int32.ofNat q), .int (Int32.ofNat len)] 7)) (T9.setTop (mkF m 46 #[.val (.ref b), .val (.int (Int32.ofNat (o + len))), .val (.ref d), .val (.int (Int32.ofNat (q + len))), .val (.int (Int32.ofNat len)), .val (.int (Int32.ofNat len)), z9] [.int (Int32.ofNat len)])) := g9.trans (by
    refine XS.iload X9.here hexec rfl (hb hbytes d3) rfl ?_
    refine XS.iload X9.here hexec rfl (hb hbytes d5) rfl ?_
    refine XS.icmpYes X9.here hexec rfl (pc0 := 7) rfl (hb hbytes d7) rfl (ii_ge_t (nlt32 (by omega) (Nat.le_refl _))) (by decide) rfl ?_
    refine XS.iload X9.here hexec rfl (hb hbytes d44) rfl ?_
    exact Steps.refl _)
  exact ⟨T9, some (.int (Int32.ofNat len)), _, _, _, X9, by simp, rfl, rfl, (fun h => by cases h), ⟨rfl, B9, p9.from hh0, f9⟩, fun fs hl => c11.trans (X9.ireturnOut hexec hret rfl (Or.inl rfl) (hb hbytes d46) hl)⟩
end Cmp5
namespace Cmp3
def yN : MethodName := ⟨"java/lang/StringUTF16", "compress", "([CII)[B"⟩
abbrev yB : ByteArray := jdk_52_method_16_code
theorem d0 : decode yB 0 = .ok (.iload_n 2, 1) := by decide +kernel
theorem d1 : decode yB 1 = .ok (.newarray .byte, 2) := by decide +kernel
theorem d3 : decode yB 3 = .ok (.astore_n 3, 1) := by decide +kernel
theorem d4 : decode yB 4 = .ok (.aload_n 0, 1) := by decide +kernel
theorem d5 : decode yB 5 = .ok (.iload_n 1, 1) := by decide +kernel
theorem d6 : decode yB 6 = .ok (.aload_n 3, 1) := by decide +kernel
theorem d7 : decode yB 7 = .ok (.iconst 0, 1) := by decide +kernel
theorem d8 : decode yB 8 = .ok (.iload_n 2, 1) := by decide +kernel
theorem d9 : decode yB 9 = .ok (.invokestatic 115, 3) := by decide +kernel
theorem d12 : decode yB 12 = .ok (.istore 4, 2) := by decide +kernel
theorem d14 : decode yB 14 = .ok (.iload 4, 2) := by decide +kernel
theorem d16 : decode yB 16 = .ok (.iload_n 2, 1) := by decide +kernel
theorem d17 : decode yB 17 = .ok (.if_icmp (.eq) 40, 3) := by decide +kernel
theorem d57 : decode yB 57 = .ok (.aload_n 3, 1) := by decide +kernel
theorem d58 : decode yB 58 = .ok (.areturn, 1) := by decide +kernel
def site : List Cond := [.arrayClass .byte, Cmp5.tab] ++ staticW U16 115 Cmp5.yN
def tab : Cond := tabOf yN yB 6 (some (.array .byte)) site
def P (b : Addr) (A : Cell) (o len : Nat) (args : Array Value) (s : State) : Prop := args = #[.ref b, .int (Int32.ofNat o), .int (Int32.ofNat len)] ∧ Ch b A s ∧ o + len ≤ A.slots.size ∧ len ≤ 536870912 ∧ ∀ i, i < len → ¬ 255 < cv A (o + i)
def E (b : Addr) (A : Cell) (o len : Nat) (r : Option Value) (s u : State) : Prop := NewArr .byte "[B" len (fun j => .int (lo8 (cv A (o + j)))) r s u ∧ u.heap.size = s.heap.size + 1
/-- no char of the range above 255: a new byte[] of their low bytes -/
theorem law (l : Launch) (b : Addr) (A : Cell) (o len : Nat) : Law l yN 3 3 1 18 yB 6 (some (.array .byte)) site (P b A o len) (E b A o len) [] 1 len := by
  refine Law.of_walk (plainFor_of_name (by decide +kernel)) (by decide +kernel) (by decide +kernel) (by decide) (fun _ _ h => by rw [h.1]; rfl) (fun _ U U' hal hh h => ⟨h.1, h.2.1.mv hal hh, h.2.2⟩) (fun r U U' V V' h1 hal h2 h => ⟨NewArr.mv r U U' V V' h1 hal h2 h.1, by rw [h1, h2]; exact h.2⟩) ?_
  intro p e s m args below meth c s₁ X0 hexec hbytes hml hret hlk hnm hown hh0 W hP
  obtain ⟨rfl, hA, l1, l2, hp⟩ := hP
  have a31 := hA.1.2.2.2
  have c1 : Steps p.tables e below (s₁.setTop (entryFrame m #[.ref b, .int (Int32.ofNat o), .int (Int32.ofNat len)] 6)) (s₁.setTop (mkF m 0 #[.val (.ref b), .val (.int (Int32.ofNat o)), .val (.int (Int32.ofNat len)), .unset, .unset, .unset] [])) := entry rfl
  have c2 : Steps p.tables e below (s₁.setTop (entryFrame m #[.ref b, .int (Int32.ofNat o), .int (Int32.ofNat len)] 6)) (s₁.setTop (mkF m 1 #[.val (.ref b), .val (.int (Int32.ofNat o)), .val (.int (Int32.ofNat len)), .unset, .unset, .unset] [.int (Int32.ofNat len)])) := c1.trans (by
    refine XS.iloadN X0.here hexec rfl (hb hbytes d0) rfl ?_
    exact Steps.refl _)
  obtain ⟨T3, B3, X3, ba3, bs3, bv3, bh3, bf3, st3⟩ := X0.anew hexec (atype := .byte) (wk W (.arrayClass .byte)) rfl (by show len * 1 ≤ _; omega) (by omega) (g := (mkF m 1 #[.val (.ref b), .val (.int (Int32.ofNat o)), .val (.int (Int32.ofNat len)), .unset, .unset, .unset] [.int (Int32.ofNat len)])) rfl (hb hbytes d1) (rest := []) rfl (Nat.le_refl _) (by show 0 + len ≤ len; omega)
  rw [hh0] at ba3 st3
  have kp3 : XT.Kept s T3 := (XT.Kept.of_eq hh0).push bh3
  have hA3 := hA.keep X3.warmed.alike (kp3 _ _ hA.1.1)
  have hne : b ≠ s.heap.size := hA.1.ne
  have c4 : Steps p.tables e below (s₁.setTop (entryFrame m #[.ref b, .int (Int32.ofNat o), .int (Int32.ofNat len)] 6)) (T3.setTop (mkF m 3 #[.val (.ref b), .val (.int (Int32.ofNat o)), .val (.int (Int32.ofNat len)), .unset, .unset, .unset] [.ref s.heap.size])) := c2.trans (st3 _ (Steps.refl _))
  have c5 : Steps p.tables e below (s₁.setTop (entryFrame m #[.ref b, .int (Int32.ofNat o), .int (Int32.ofNat len)] 6)) (T3.setTop (mkF m 9 #[.val (.ref b), .val (.int (Int32.ofNat o)), .val (.int (Int32.ofNat len)), .val (.ref s.heap.size), .unset, .unset] [.int (Int32.ofNat len), .int 0, .ref s.heap.size, .int (Int32.ofNat o), .ref b])) := c4.trans (by
    refine XS.astoreN X3.here hexec rfl (hb hbytes d3) rfl rfl rfl ?_
    refine XS.aloadN X3.here hexec rfl (hb hbytes d4) rfl rfl ?_
    refine XS.iloadN X3.here hexec rfl (hb hbytes d5) rfl ?_
    refine XS.aloadN X3.here hexec rfl (hb hbytes d6) rfl rfl ?_
    refine iconstV X3.here hexec rfl 0 (hb hbytes d7) (by decide) ?_
    refine XS.iloadN X3.here hexec rfl (hb hbytes d8) rfl ?_
    exact Steps.refl _)
  obtain ⟨v6, T6, X6, E6, g6⟩ := X3.callS hexec (Cmp5.law l b A s.heap.size B3 o 0 len) hown (wks W (staticW U16 115 Cmp5.yN)) (wk W Cmp5.tab) (W := 0) (Nat.le_of_ble_eq_true rfl) (Nat.le_of_ble_eq_true rfl) (Nat.le_refl _) (by show 0 + len + 0 ≤ len; omega) (g := (mkF m 9 #[.val (.ref b), .val (.int (Int32.ofNat o)), .val (.int (Int32.ofNat len)), .val (.ref s.heap.size), .unset, .unset] [.int (Int32.ofNat len), .int (Int32.ofNat 0), .ref s.heap.size, .int (Int32.ofNat o), .ref b])) rfl (by rw [hml]; rfl) c5 (argsL := [.ref b, .int (Int32.ofNat o), .ref s.heap.size, .int (Int32.ofNat 0), .int (Int32.ofNat len)]) (rest := []) rfl rfl (by show 2 * 0 + 0 ≤ _; decide) (hb hbytes d9) (⟨rfl, hA3, ba3, hne, l1, by rw [bs3]; simp, hp⟩)
  obtain ⟨rfl, B6, p6, f6⟩ := E6
  have c7 : Steps p.tables e below (s₁.setTop (entryFrame m #[.ref b, .int (Int32.ofNat o), .int (Int32.ofNat len)] 6)) (T6.setTop (mkF m 12 #[.val (.ref b), .val (.int (Int32.ofNat o)), .val (.int (Int32.ofNat len)), .val (.ref s.heap.size), .unset, .unset] [.int (Int32.ofNat len)])) := g6
  have c8 : Steps p.tables e below (s₁.setTop (entryFrame m #[.ref b, .int (Int32.ofNat o), .int (Int32.ofNat len)] 6)) (T6.setTop (mkF m 58 #[.val (.ref b), .val (.int (Int32.ofNat o)), .val (.int (Int32.ofNat len)), .val (.ref s.heap.size), .val (.int (Int32.ofNat len)), .unset] [.ref s.heap.size])) := c7.trans (by
    refine XS.istore X6.here hexec rfl (hb hbytes d12) rfl rfl ?_
    refine XS.iload X6.here hexec rfl (hb hbytes d14) rfl ?_
    refine XS.iloadN X6.here hexec rfl (hb hbytes d16) rfl ?_
    refine XS.icmpYes X6.here hexec rfl (pc0 := 17) rfl (hb hbytes d17) rfl (ii_eq_t rfl) (by decide) rfl ?_
    refine XS.aloadN X6.here hexec rfl (hb hbytes d57) rfl rfl ?_
    exact Steps.refl _)
  have X8 := X6.wide (L' := []) (cells' := 1) (slots' := len) (fun x hx hlt => by
    simp only [List.nil_append, copyLocs, List.mem_map, List.mem_range] at hx
    obtain ⟨i, -, rfl⟩ := hx
    exact absurd hlt (Nat.lt_irrefl _)) (Nat.le_refl _) (by omega)
  exact ⟨T6, some (.ref s.heap.size), _, _, _, X8, rfl, rfl, rfl, (fun h => by cases h), ⟨⟨rfl, B6, ba3.like (X3.warmed.alike.symm.trans X6.warmed.alike) p6.1 f6.1 f6.2.1 f6.2.2.1, f6.2.1.trans bv3, by rw [X6.warmed.alike.findClass, f6.1]; exact bf3, by rw [f6.2.2.1, bs3]; simp, fun j hj => by rw [f6.2.2.2 j, if_pos (by omega)]; rfl, kp3.put p6 (Nat.le_refl _)⟩, by rw [p6.2.2, bh3, hh0]; simp⟩, fun fs hl => c8.trans (X8.areturnOut hexec rfl hret rfl (hb hbytes d58) hl)⟩
end Cmp3
namespace CodL
def yN : MethodName := ⟨"java/lang/StringUTF16", "coderFromArrayLen", "([BI)B"⟩
abbrev yB : ByteArray := jdk_52_method_15_code
theorem d0 : decode yB 0 = .ok (.iload_n 1, 1) := by decide +kernel
theorem d1 : decode yB 1 = .ok (.aload_n 0, 1) := by decide +kernel
theorem d2 : decode yB 2 = .ok (.arraylength, 1) := by decide +kernel
theorem d3 : decode yB 3 = .ok (.isub, 1) := by decide +kernel
theorem d4 : decode yB 4 = .ok (.bipush 31, 2) := by decide +kernel
theorem d6 : decode yB 6 = .ok (.iushr, 1) := by decide +kernel
theorem d7 : decode yB 7 = .ok (.i2b, 1) := by decide +kernel
theorem d8 : decode yB 8 = .ok (.ireturn, 1) := by decide +kernel
def site : List Cond := []
def tab : Cond := tabOf yN yB 2 (some .byte) site
def P (d : Addr) (B : Cell) (args : Array Value) (s : State) : Prop := args = #[.ref d, .int (Int32.ofNat B.slots.size)] ∧ Arr .byte d B s
def E (r : Option Value) (s u : State) : Prop := XT.PureE (some (.int 0)) r s u
/-- an array as long as the number of chars: LATIN1 -/
theorem law (l : Launch) (d : Addr) (B : Cell) : Law l yN 2 2 0 0 yB 2 (some .byte) site (P d B) E [] 0 0 := by
  refine Law.of_walk (plainFor_of_name (by decide +kernel)) (by decide +kernel) (by decide +kernel) (by decide) (fun _ _ h => by rw [h.1]; rfl) (fun _ U U' hal hh h => ⟨h.1, h.2.mv hal hh⟩) (fun r U U' V V' h1 hal h2 h => XT.PureE.mv r U U' V V' h1 hal h2 h) ?_
  intro p e s m args below meth c s₁ X0 hexec hbytes hml hret hlk hnm hown hh0 W hP
  obtain ⟨rfl, hB⟩ := hP
  have hB0 := hB.mv X0.warmed.alike hh0
  have c1 : Steps p.tables e below (s₁.setTop (entryFrame m #[.ref d, .int (Int32.ofNat B.slots.size)] 2)) (s₁.setTop (mkF m 0 #[.val (.ref d), .val (.int (Int32.ofNat B.slots.size))] [])) := entry rfl
  have c2 : Steps p.tables e below (s₁.setTop (entryFrame m #[.ref d, .int (Int32.ofNat B.slots.size)] 2)) (s₁.setTop (mkF m 2 #[.val (.ref d), .val (.int (Int32.ofNat B.slots.size))] [.ref d, .int (Int32.ofNat B.slots.size)])) := c1.trans (by
    refine XS.iloadN X0.here hexec rfl (hb hbytes d0) rfl ?_
    refine XS.aloadN X0.here hexec rfl (hb hbytes d1) rfl rfl ?_
    exact Steps.refl _)
  have c3 : Steps p.tables e below (s₁.setTop (entryFrame m #[.ref d, .int (Int32.ofNat B.slots.size)] 2)) (s₁.setTop (mkF m 8 #[.val (.ref d), .val (.int (Int32.ofNat B.slots.size))] [.int (lo8 (ushr (Int32.ofNat B.slots.size - Int32.ofNat B.slots.size) 31))])) := c2.trans (by
    refine X0.alen hexec hB0 rfl rfl (hb hbytes d2) ?_
    refine XS.isub X0.here hexec rfl (hb hbytes d3) rfl ?_
    refine bipushV X0.here hexec rfl 31 (hb hbytes d4) (by decide) ?_
    refine iushr X0.here hexec rfl (hb hbytes d6) rfl ?_
    refine i2b X0.here hexec rfl (hb hbytes d7) rfl ?_
    exact Steps.refl _)
  have e0 : lo8 (ushr (Int32.ofNat B.slots.size - Int32.ofNat B.slots.size) 31) = 0 := by rw [Int32.sub_self]; decide
  rw [e0] at c3
  exact ⟨s₁, some (.int 0), _, _, _, X0, rfl, rfl, rfl, (fun h => by cases h), ⟨rfl, hh0⟩, fun fs hl => c3.trans (X0.ireturnOut hexec hret rfl (Or.inr (Or.inr (Or.inl rfl))) (hb hbytes d8) hl)⟩
end CodL
/-- the String at a is Latin-1 over a new byte[] (the heap's one new cell): the low bytes of the len chars of A from o on; every cell but a is kept -/
def Got (a : Addr) (D : Cell) (fV fC : Field) (A : Cell) (o len : Nat) (r : Option Value) (s u : State) : Prop := r = none ∧ ∃ D' V : Cell, Blank "java/lang/String" a D' u ∧ Same D D' [fV.slot, fC.slot] ∧ D'.slots[fV.slot]? = some (.ref s.heap.size) ∧ D'.slots[fC.slot]? = some (.int 0) ∧ Arr .byte s.heap.size V u ∧ V.vm = .none ∧ u.vm.findClass "[B" = some V.cls ∧ V.slots.size = len ∧ (∀ j, j < len → V.slots[j]? = some (.int (lo8 (cv A (o + j))))) ∧ (∀ (y : Addr) (c : Cell), y ≠ a → s.heap[y]? = some c → u.heap[y]? = some c) ∧ u.heap.size = s.heap.size + 1
theorem Got.mv {a : Addr} {D A : Cell} {fV fC : Field} {o len : Nat} : ∀ r (U U' V V' : State), U'.heap = U.heap → V.vm.Alike V'.vm → V'.heap = V.heap → Got a D fV fC A o len r U V → Got a D fV fC A o len r U' V' :=
  fun r U U' V V' h1 hal h2 ⟨e0, D', X, a1, a2, a3, a4, a5, a6, a7, a8, a9, a10, a11⟩ => ⟨e0, D', X, a1.mv hal h2, a2, by rw [h1]; exact a3, a4, by rw [h1]; exact a5.mv hal h2, a6, by rw [hal.findClass]; exact a7, a8, a9, by rw [h1, h2]; exact a10, by rw [h1, h2]; exact a11⟩
namespace New4
def yN : MethodName := ⟨"java/lang/String", "<init>", "([CIILjava/lang/Void;)V"⟩
abbrev yB : ByteArray := jdk_42_method_149_code
theorem d0 : decode yB 0 = .ok (.aload_n 0, 1) := by decide +kernel
theorem d1 : decode yB 1 = .ok (.invokespecial 1, 3) := by decide +kernel
theorem d4 : decode yB 4 = .ok (.iload_n 3, 1) := by decide +kernel
theorem d5 : decode yB 5 = .ok (.ifCond (.ne) 22, 3) := by decide +kernel
theorem d27 : decode yB 27 = .ok (.getstatic 38, 3) := by decide +kernel
theorem d30 : decode yB 30 = .ok (.ifCond (.eq) 28, 3) := by decide +kernel
theorem d33 : decode yB 33 = .ok (.aload_n 1, 1) := by decide +kernel
theorem d34 : decode yB 34 = .ok (.iload_n 2, 1) := by decide +kernel
theorem d35 : decode yB 35 = .ok (.iload_n 3, 1) := by decide +kernel
theorem d36 : decode yB 36 = .ok (.invokestatic 177, 3) := by decide +kernel
theorem d39 : decode yB 39 = .ok (.astore 5, 2) := by decide +kernel
theorem d41 : decode yB 41 = .ok (.aload_n 0, 1) := by decide +kernel
theorem d42 : decode yB 42 = .ok (.aload 5, 2) := by decide +kernel
theorem d44 : decode yB 44 = .ok (.iload_n 3, 1) := by decide +kernel
theorem d45 : decode yB 45 = .ok (.invokestatic 47, 3) := by decide +kernel
theorem d48 : decode yB 48 = .ok (.putfield 15, 3) := by decide +kernel
theorem d51 : decode yB 51 = .ok (.aload_n 0, 1) := by decide +kernel
theorem d52 : decode yB 52 = .ok (.aload 5, 2) := by decide +kernel
theorem d54 : decode yB 54 = .ok (.putfield 9, 3) := by decide +kernel
theorem d57 : decode yB 57 = .ok (.return_, 1) := by decide +kernel
def site : List Cond := [.fieldLink "java/lang/String" 38 "java/lang/String" "COMPACT_STRINGS" "Z", Cmp3.tab, CodL.tab, .laysFinal "java/lang/String" "java/lang/String" "value" "[B", .fieldLink "java/lang/String" 9 "java/lang/String" "value" "[B", .laysFinal "java/lang/String" "java/lang/String" "coder" "B", .fieldLink "java/lang/String" 15 "java/lang/String" "coder" "B"] ++ objW "java/lang/String" 1 ++ staticW "java/lang/String" 177 Cmp3.yN ++ staticW "java/lang/String" 47 CodL.yN
def tab : Cond := tabOf yN yB 6 none site
def P (a : Addr) (D : Cell) (fV fC : Field) (b : Addr) (A : Cell) (z : Int32) (o len : Nat) (args : Array Value) (s : State) : Prop := args = #[.ref a, .ref b, .int (Int32.ofNat o), .int (Int32.ofNat len), .null] ∧ Blank "java/lang/String" a D s ∧ Found "java/lang/String" "value" "[B" fV s ∧ Found "java/lang/String" "coder" "B" fC s ∧ Ch b A s ∧ StaticIs s "java/lang/String" "COMPACT_STRINGS" "Z" (.int z) ∧ ¬ z = 0 ∧ 0 < len ∧ o + len ≤ A.slots.size ∧ len ≤ 536870912 ∧ ∀ i, i < len → ¬ 255 < cv A (o + i)
def E (a : Addr) (D : Cell) (fV fC : Field) (A : Cell) (o len : Nat) (r : Option Value) (s u : State) : Prop := Got a D fV fC A o len r s u
/-- len > 0, no char of the range above 255: a Latin-1 String of their low bytes -/
theorem law (l : Launch) (a : Addr) (D : Cell) (fV fC : Field) (b : Addr) (A : Cell) (z : Int32) (o len : Nat) : Law l yN 5 4 2 35 yB 6 none site (P a D fV fC b A z o len) (E a D fV fC A o len) [⟨a, fC.slot⟩, ⟨a, fV.slot⟩] 1 len := by
  refine Law.of_walk (plainFor_of_name (by decide +kernel)) (by decide +kernel) (by decide +kernel) (by decide) (fun _ _ h => by rw [h.1]; rfl) (fun _ U U' hal hh h => ⟨h.1, h.2.1.mv hal hh, h.2.2.1.al hal, h.2.2.2.1.al hal, h.2.2.2.2.1.mv hal hh, h.2.2.2.2.2.1.there hal hh, h.2.2.2.2.2.2⟩) (fun r U U' V V' h1 hal h2 h => Got.mv r U U' V V' h1 hal h2 h) ?_
  intro p e s m args below meth c s₁ X0 hexec hbytes hml hret hlk hnm hown hh0 W hP
  obtain ⟨rfl, hB, f1, f2, hA, s1, hz, l0, l1, l2, hp⟩ := hP
  have a31 := hA.1.2.2.2
  have c1 : Steps p.tables e below (s₁.setTop (entryFrame m #[.ref a, .ref b, .int (Int32.ofNat o), .int (Int32.ofNat len), .null] 6)) (s₁.setTop (mkF m 0 #[.val (.ref a), .val (.ref b), .val (.int (Int32.ofNat o)), .val (.int (Int32.ofNat len)), .val .null, .unset] [])) := entry rfl
  have c2 : Steps p.tables e below (s₁.setTop (entryFrame m #[.ref a, .ref b, .int (Int32.ofNat o), .int (Int32.ofNat len), .null] 6)) (s₁.setTop (mkF m 1 #[.val (.ref a), .val (.ref b), .val (.int (Int32.ofNat o)), .val (.int (Int32.ofNat len)), .val .null, .unset] [.ref a])) := c1.trans (by
    refine XS.aloadN X0.here hexec rfl (hb hbytes d0) rfl rfl ?_
    exact Steps.refl _)
  obtain ⟨T3, X3, q3, st3⟩ := X0.oinit hexec hown (wks W (objW "java/lang/String" 1)) (g := (mkF m 1 #[.val (.ref a), .val (.ref b), .val (.int (Int32.ofNat o)), .val (.int (Int32.ofNat len)), .val .null, .unset] [.ref a])) rfl (by rw [hml]; rfl) (rest := []) rfl (hb hbytes d1) (W := 0) (by show 2 * 0 + 0 ≤ _; decide) (Nat.le_of_ble_eq_true rfl) (Nat.le_of_ble_eq_true rfl)
  have hh3 := q3.trans hh0
  have c4 : Steps p.tables e below (s₁.setTop (entryFrame m #[.ref a, .ref b, .int (Int32.ofNat o), .int (Int32.ofNat len), .null] 6)) (T3.setTop (mkF m 27 #[.val (.ref a), .val (.ref b), .val (.int (Int32.ofNat o)), .val (.int (Int32.ofNat len)), .val .null, .unset] [])) := (c2.trans (st3 _ (Steps.refl _))).trans (by
    refine XS.iloadN X3.here hexec rfl (hb hbytes d4) rfl ?_
    refine XS.ifYes X3.here hexec rfl (pc0 := 5) rfl (hb hbytes d5) rfl (i0_ne_t (nz32 (by omega) l0)) (by decide) rfl ?_
    exact Steps.refl _)
  obtain ⟨T5, X5, q5, st5⟩ := X3.sget hexec hown (wk W (.fieldLink "java/lang/String" 38 "java/lang/String" "COMPACT_STRINGS" "Z")) s1 (fun _ _ h => by rw [hh3]; exact h) (g := (mkF m 27 #[.val (.ref a), .val (.ref b), .val (.int (Int32.ofNat o)), .val (.int (Int32.ofNat len)), .val .null, .unset] [])) rfl (hb hbytes d27)
  have hh5 := q5.trans hh3
  have c6 : Steps p.tables e below (s₁.setTop (entryFrame m #[.ref a, .ref b, .int (Int32.ofNat o), .int (Int32.ofNat len), .null] 6)) (T5.setTop (mkF m 30 #[.val (.ref a), .val (.ref b), .val (.int (Int32.ofNat o)), .val (.int (Int32.ofNat len)), .val .null, .unset] [.int z])) := c4.trans (st5 _ (Steps.refl _))
  have c7 : Steps p.tables e below (s₁.setTop (entryFrame m #[.ref a, .ref b, .int (Int32.ofNat o), .int (Int32.ofNat len), .null] 6)) (T5.setTop (mkF m 36 #[.val (.ref a), .val (.ref b), .val (.int (Int32.ofNat o)), .val (.int (Int32.ofNat len)), .val .null, .unset] [.int (Int32.ofNat len), .int (Int32.ofNat o), .ref b])) := c6.trans (by
    refine XS.ifNo X5.here hexec rfl (hb hbytes d30) rfl (i0_eq_f hz) ?_
    refine XS.aloadN X5.here hexec rfl (hb hbytes d33) rfl rfl ?_
    refine XS.iloadN X5.here hexec rfl (hb hbytes d34) rfl ?_
    refine XS.iloadN X5.here hexec rfl (hb hbytes d35) rfl ?_
    exact Steps.refl _)
  obtain ⟨v8, T8, X8, E8, g8⟩ := X5.callS hexec (Cmp3.law l b A o len) hown (wks W (staticW "java/lang/String" 177 Cmp3.yN)) (wk W Cmp3.tab) (W := 0) (Nat.le_of_ble_eq_true rfl) (Nat.le_of_ble_eq_true rfl) (Nat.le_refl _) (by show 0 + len ≤ len; omega) (g := (mkF m 36 #[.val (.ref a), .val (.ref b), .val (.int (Int32.ofNat o)), .val (.int (Int32.ofNat len)), .val .null, .unset] [.int (Int32.ofNat len), .int (Int32.ofNat o), .ref b])) rfl (by rw [hml]; rfl) c7 (argsL := [.ref b, .int (Int32.ofNat o), .int (Int32.ofNat len)]) (rest := []) rfl rfl (by show 2 * 0 + 0 ≤ _; decide) (hb hbytes d36) (⟨rfl, hA.mv X5.warmed.alike hh5, l1, l2, hp⟩)
  obtain ⟨e8, z8⟩ := E8
  obtain ⟨rfl, N, n1, n2, n3, n4, n5, n6⟩ := NewArr.mv _ T5 s _ _ hh5.symm (Vm.Alike.refl _) rfl e8
  rw [hh5] at z8
  have hB1 := hB.keep X8.warmed.alike (n6 _ _ hB.1)
  have hne : s.heap.size ≠ a := (Nat.ne_of_lt (Array.getElem?_eq_some_iff.mp hB.1).1).symm
  have c9 : Steps p.tables e below (s₁.setTop (entryFrame m #[.ref a, .ref b, .int (Int32.ofNat o), .int (Int32.ofNat len), .null] 6)) (T8.setTop (mkF m 39 #[.val (.ref a), .val (.ref b), .val (.int (Int32.ofNat o)), .val (.int (Int32.ofNat len)), .val .null, .unset] [.ref s.heap.size])) := g8
  have c10 : Steps p.tables e below (s₁.setTop (entryFrame m #[.ref a, .ref b, .int (Int32.ofNat o), .int (Int32.ofNat len), .null] 6)) (T8.setTop (mkF m 45 #[.val (.ref a), .val (.ref b), .val (.int (Int32.ofNat o)), .val (.int (Int32.ofNat len)), .val .null, .val (.ref s.heap.size)] [.int (Int32.ofNat N.slots.size), .ref s.heap.size, .ref a])) := by
    have hc : Steps p.tables e below (s₁.setTop (entryFrame m #[.ref a, .ref b, .int (Int32.ofNat o), .int (Int32.ofNat len), .null] 6)) (T8.setTop (mkF m 45 #[.val (.ref a), .val (.ref b), .val (.int (Int32.ofNat o)), .val (.int (Int32.ofNat len)), .val .null, .val (.ref s.heap.size)] [.int (Int32.ofNat len), .ref s.heap.size, .ref a])) := c9.trans (by
      refine XS.astore X8.here hexec rfl (hb hbytes d39) rfl rfl rfl ?_
      refine XS.aloadN X8.here hexec rfl (hb hbytes d41) rfl rfl ?_
      refine XS.aload X8.here hexec rfl (hb hbytes d42) rfl rfl ?_
      refine XS.iloadN X8.here hexec rfl (hb hbytes d44) rfl ?_
      exact Steps.refl _)
    rw [n4]; exact hc
  obtain ⟨v11, T11, X11, E11, g11⟩ := X8.callS hexec (CodL.law l s.heap.size N) hown (wks W (staticW "java/lang/String" 47 CodL.yN)) (wk W CodL.tab) (W := 1) (Nat.le_of_ble_eq_true rfl) (Nat.le_of_ble_eq_true rfl) (Nat.le_refl _) (by show 0 + len + 0 ≤ len; omega) (g := (mkF m 45 #[.val (.ref a), .val (.ref b), .val (.int (Int32.ofNat o)), .val (.int (Int32.ofNat len)), .val .null, .val (.ref s.heap.size)] [.int (Int32.ofNat N.slots.size), .ref s.heap.size, .ref a])) rfl (by rw [hml]; rfl) c10 (argsL := [.ref s.heap.size, .int (Int32.ofNat N.slots.size)]) (rest := [.ref a]) rfl rfl (by show 2 * 0 + (1 + 0) ≤ _; decide) (hb hbytes d45) (⟨rfl, n1⟩)
  obtain ⟨rfl, q11⟩ := E11
  have hB11 := hB1.mv (X8.warmed.alike.symm.trans X11.warmed.alike) q11
  have c12 : Steps p.tables e below (s₁.setTop (entryFrame m #[.ref a, .ref b, .int (Int32.ofNat o), .int (Int32.ofNat len), .null] 6)) (T11.setTop (mkF m 48 #[.val (.ref a), .val (.ref b), .val (.int (Int32.ofNat o)), .val (.int (Int32.ofNat len)), .val .null, .val (.ref s.heap.size)] [.int 0, .ref a])) := g11
  obtain ⟨T13, X13, p13, bl13, sl13, st13⟩ := X11.finit hexec hown (wk W (.fieldLink "java/lang/String" 15 "java/lang/String" "coder" "B")) (Or.inr ⟨_, (wk W (.laysFinal "java/lang/String" "java/lang/String" "coder" "B"))⟩) (Or.inl ⟨rfl, hnm⟩) f2 (Or.inl rfl) hB11 (t := .byte) (by decide +kernel) rfl (g := (mkF m 48 #[.val (.ref a), .val (.ref b), .val (.int (Int32.ofNat o)), .val (.int (Int32.ofNat len)), .val .null, .val (.ref s.heap.size)] [.int 0, .ref a])) rfl (rest := []) rfl (hb hbytes d48)
  have c14 : Steps p.tables e below (s₁.setTop (entryFrame m #[.ref a, .ref b, .int (Int32.ofNat o), .int (Int32.ofNat len), .null] 6)) (T13.setTop (mkF m 54 #[.val (.ref a), .val (.ref b), .val (.int (Int32.ofNat o)), .val (.int (Int32.ofNat len)), .val .null, .val (.ref s.heap.size)] [.ref s.heap.size, .ref a])) := (c12.trans (st13 _ (Steps.refl _))).trans (by
    refine XS.aloadN X13.here hexec rfl (hb hbytes d51) rfl rfl ?_
    refine XS.aload X13.here hexec rfl (hb hbytes d52) rfl rfl ?_
    exact Steps.refl _)
  obtain ⟨T15, X15, p15, bl15, sl15, st15⟩ := X13.finit hexec hown (wk W (.fieldLink "java/lang/String" 9 "java/lang/String" "value" "[B")) (Or.inr ⟨_, (wk W (.laysFinal "java/lang/String" "java/lang/String" "value" "[B"))⟩) (Or.inl ⟨rfl, hnm⟩) f1 (Or.inl rfl) bl13 (t := (.array .byte)) (by decide +kernel) rfl (g := (mkF m 54 #[.val (.ref a), .val (.ref b), .val (.int (Int32.ofNat o)), .val (.int (Int32.ofNat len)), .val .null, .val (.ref s.heap.size)] [.ref s.heap.size, .ref a])) rfl (rest := []) rfl (hb hbytes d54)
  have c16 : Steps p.tables e below (s₁.setTop (entryFrame m #[.ref a, .ref b, .int (Int32.ofNat o), .int (Int32.ofNat len), .null] 6)) (T15.setTop (mkF m 57 #[.val (.ref a), .val (.ref b), .val (.int (Int32.ofNat o)), .val (.int (Int32.ofNat len)), .val .null, .val (.ref s.heap.size)] [])) := c14.trans (st15 _ (Steps.refl _))
  have ap := apart (Or.inr ⟨_, (wk W (.laysFinal "java/lang/String" "java/lang/String" "value" "[B"))⟩) (Or.inr ⟨_, (wk W (.laysFinal "java/lang/String" "java/lang/String" "coder" "B"))⟩) f1 f2 (t₁ := .array .byte) (t₂ := .byte) (by decide +kernel) (by decide +kernel) (by decide)
  have al := X8.warmed.alike.symm.trans X15.warmed.alike
  have n7 : T11.heap[s.heap.size]? = some N := by rw [q11]; exact n1.1
  exact ⟨T15, none, _, _, _, X15, by simp, rfl, by omega, (fun _ => rfl), ⟨rfl, _, N, bl15, ((Same.refl D _).set _ (by simp)).set _ (by simp), sl15, (Cell.slots_setSlot_ne _ ap).trans sl13, n1.keep al (p15.other hne (p13.other hne n7)), n2, by rw [al.findClass]; exact n3, n4, n5, fun y c h1 h2 => p15.other h1 (p13.other h1 (by rw [q11]; exact n6 y c h2)), by rw [p15.2.2, p13.2.2, q11]; exact z8⟩, fun fs hl => c16.trans (X15.returnOut hexec hret (hb hbytes d57) hl)⟩
end New4
namespace New1
def yN : MethodName := ⟨"java/lang/String", "<init>", "([C)V"⟩
abbrev yB : ByteArray := jdk_42_method_3_code
theorem d0 : decode yB 0 = .ok (.aload_n 0, 1) := by decide +kernel
theorem d1 : decode yB 1 = .ok (.aload_n 1, 1) := by decide +kernel
theorem d2 : decode yB 2 = .ok (.iconst 0, 1) := by decide +kernel
theorem d3 : decode yB 3 = .ok (.aload_n 1, 1) := by decide +kernel
theorem d4 : decode yB 4 = .ok (.arraylength, 1) := by decide +kernel
theorem d5 : decode yB 5 = .ok (.aconst_null, 1) := by decide +kernel
theorem d6 : decode yB 6 = .ok (.invokespecial 27, 3) := by decide +kernel
theorem d9 : decode yB 9 = .ok (.return_, 1) := by decide +kernel
def site : List Cond := [New4.tab] ++ initW "java/lang/String" 27 New4.yN
def tab : Cond := tabOf yN yB 2 none site
def P (a : Addr) (D : Cell) (fV fC : Field) (b : Addr) (A : Cell) (z : Int32) (args : Array Value) (s : State) : Prop := args = #[.ref a, .ref b] ∧ Blank "java/lang/String" a D s ∧ Found "java/lang/String" "value" "[B" fV s ∧ Found "java/lang/String" "coder" "B" fC s ∧ Ch b A s ∧ StaticIs s "java/lang/String" "COMPACT_STRINGS" "Z" (.int z) ∧ ¬ z = 0 ∧ 0 < A.slots.size ∧ A.slots.size ≤ 536870912 ∧ ∀ i, i < A.slots.size → ¬ 255 < cv A i
def E (a : Addr) (D : Cell) (fV fC : Field) (A : Cell) (r : Option Value) (s u : State) : Prop := Got a D fV fC A 0 A.slots.size r s u
/-- new String(chars), not empty, no char above 255: a Latin-1 String of their low bytes -/
theorem law (l : Launch) (a : Addr) (D : Cell) (fV fC : Field) (b : Addr) (A : Cell) (z : Int32) : Law l yN 2 1 3 52 yB 2 none site (P a D fV fC b A z) (E a D fV fC A) [⟨a, fC.slot⟩, ⟨a, fV.slot⟩] 1 A.slots.size := by
  refine Law.of_walk (plainFor_of_name (by decide +kernel)) (by decide +kernel) (by decide +kernel) (by decide) (fun _ _ h => by rw [h.1]; rfl) (fun _ U U' hal hh h => ⟨h.1, h.2.1.mv hal hh, h.2.2.1.al hal, h.2.2.2.1.al hal, h.2.2.2.2.1.mv hal hh, h.2.2.2.2.2.1.there hal hh, h.2.2.2.2.2.2⟩) (fun r U U' V V' h1 hal h2 h => Got.mv r U U' V V' h1 hal h2 h) ?_
  intro p e s m args below meth c s₁ X0 hexec hbytes hml hret hlk hnm hown hh0 W hP
  obtain ⟨rfl, hB, f1, f2, hA, s1, hz, l0, l2, hp⟩ := hP
  have c1 : Steps p.tables e below (s₁.setTop (entryFrame m #[.ref a, .ref b] 2)) (s₁.setTop (mkF m 0 #[.val (.ref a), .val (.ref b)] [])) := entry rfl
  have c2 : Steps p.tables e below (s₁.setTop (entryFrame m #[.ref a, .ref b] 2)) (s₁.setTop (mkF m 6 #[.val (.ref a), .val (.ref b)] [.null, .int (Int32.ofNat A.slots.size), .int 0, .ref b, .ref a])) := c1.trans (by
    refine XS.aloadN X0.here hexec rfl (hb hbytes d0) rfl rfl ?_
    refine XS.aloadN X0.here hexec rfl (hb hbytes d1) rfl rfl ?_
    refine iconstV X0.here hexec rfl 0 (hb hbytes d2) (by decide) ?_
    refine XS.aloadN X0.here hexec rfl (hb hbytes d3) rfl rfl ?_
    refine X0.alen hexec (hA.1.mv X0.warmed.alike hh0) rfl rfl (hb hbytes d4) ?_
    refine XS.aconstNull X0.here hexec rfl (hb hbytes d5) ?_
    exact Steps.refl _)
  obtain ⟨v3, T3, X3, E3, g3⟩ := X0.callN hexec (New4.law l a D fV fC b A z 0 A.slots.size) rfl hown (wks W (initW "java/lang/String" 27 New4.yN)) (W New4.tab (by simp only [site, List.mem_cons, List.mem_append, true_or, or_true])) (W := 0) (Nat.le_of_ble_eq_true rfl) (Nat.le_of_ble_eq_true rfl) (Nat.le_refl _) (by show 0 + A.slots.size ≤ A.slots.size; omega) (g := (mkF m 6 #[.val (.ref a), .val (.ref b)] [.null, .int (Int32.ofNat A.slots.size), .int (Int32.ofNat 0), .ref b, .ref a])) rfl (by rw [hml]; rfl) c2 (argsL := [.ref b, .int (Int32.ofNat 0), .int (Int32.ofNat A.slots.size), .null]) (rest := []) rfl rfl (by show 2 * 0 + 0 ≤ _; decide) (hb hbytes d6) (⟨rfl, hB.mv X0.warmed.alike hh0, f1.al X0.warmed.alike, f2.al X0.warmed.alike, hA.mv X0.warmed.alike hh0, s1.there X0.warmed.alike hh0, hz, l0, by omega, l2, fun i hi => by rw [Nat.zero_add]; exact hp i hi⟩)
  have e0 := Got.mv _ s₁ s _ _ hh0.symm (Vm.Alike.refl _) rfl E3
  obtain rfl := e0.1
  have c4 : Steps p.tables e below (s₁.setTop (entryFrame m #[.ref a, .ref b] 2)) (T3.setTop (mkF m 9 #[.val (.ref a), .val (.ref b)] [])) := g3
  exact ⟨T3, none, _, _, _, X3, by simp, rfl, by omega, (fun _ => rfl), e0, fun fs hl => c4.trans (X3.returnOut hexec hret (hb hbytes d9) hl)⟩
theorem pays {l : Launch} {R : Room} {p : Program} {e : Env} {below : List Frame} {s : State} {sargs : Array Value} {len W : Nat} (a : Addr) (D : Cell) (fV fC : Field) (b : Addr) (A : Cell) (z : Int32) (htab : tab.before sargs s = true) (hfr : 4 ≤ R.frames) (hlo : W + 65 ≤ R.locals) :
    Back l R p e below s sargs yN len W (fun A₁ a₁ => A₁.cells + 1 ≤ R.cells ∧ A₁.slots + A.slots.size ≤ R.slots ∧ P a D fV fC b A z a₁ A₁.U) (fun A₁ _ v₁ B₁ => E a D fV fC A v₁ A₁.U B₁.U ∧ B₁.locs = A₁.locs ++ [⟨a, fC.slot⟩, ⟨a, fV.slot⟩] ∧ B₁.cells = A₁.cells + 1 ∧ B₁.slots = A₁.slots + A.slots.size) :=
  (law l a D fV fC b A z).pays htab hfr (by omega)
end New1
/-- the byte, read back as charAt reads it, is the char -/
theorem lo8_mask {x : Int32} (h0 : ¬ x < 0) (h1 : ¬ 255 < x) : lo8 x &&& 255 = x := by
  have t : ∀ k : Fin 256, lo8 (Int32.ofNat k.val) &&& 255 = Int32.ofNat k.val := by decide +kernel
  rw [Int32.lt_iff_toInt_lt] at h0 h1
  have e0 : (0 : Int32).toInt = 0 := rfl
  have e1 : (255 : Int32).toInt = 255 := rfl
  obtain ⟨k, hk⟩ : ∃ k : Nat, x.toInt = k := ⟨x.toInt.toNat, by omega⟩
  have hx : x = Int32.ofNat k := Int32.toInt_inj.mp (by rw [hk, Int32.toInt_ofNat_small (by omega)])
  rw [hx]
  exact t ⟨k, by omega⟩
end StrChars
namespace StrChars.Road
open Jvm Sem ClassFile Op Lib Jvm.Stand Jvm.Free Jvm.Free.XT
open Jvm.Lib.Cold (StaticIs)
abbrev ST : String := "java/lang/String"
/-- every table word that New1's law asks, flat -/
abbrev words : List Jvm.Cond := [.code New1.yN New1.yB 2 none, .initialized ST, .methodLink ST 27 New4.yN, .instanceMethod New4.yN,
  .code New4.yN New4.yB 6 none, .fieldLink ST 38 ST "COMPACT_STRINGS" "Z", .laysFinal ST ST "value" "[B", .fieldLink ST 9 ST "value" "[B", .laysFinal ST ST "coder" "B", .fieldLink ST 15 ST "coder" "B",
  .methodLink ST 1 Lib.objectInit, .instanceMethod Lib.objectInit, .code Lib.objectInit ⟨#[0xb1]⟩ 1 none, .methodLink ST 177 Cmp3.yN, .static Cmp3.yN, .methodLink ST 47 CodL.yN, .static CodL.yN,
  .code Cmp3.yN Cmp3.yB 6 (some (.array .byte)), .initialized U16, .arrayClass .byte, .methodLink U16 115 Cmp5.yN, .static Cmp5.yN, .code Cmp5.yN Cmp5.yB 7 (some .int), .code CodL.yN CodL.yB 2 (some .byte)]
theorem tab_of {a : Array Value} {s : State} (h : ∀ w ∈ words, w.before a s = true) : New1.tab.before a s = true := by
  have h5 : Cmp5.tab.before a s = true := unparts (wk h (.code Cmp5.yN Cmp5.yB 7 (some .int))) (wks h (.initialized Cmp5.yN.cls :: Cmp5.site))
  have hc : CodL.tab.before a s = true := unparts (wk h (.code CodL.yN CodL.yB 2 (some .byte))) (wks h (.initialized CodL.yN.cls :: CodL.site))
  have q5 : ∀ w ∈ Cmp5.tab :: words, w.before a s = true := fun w hw => (List.mem_cons.mp hw).elim (fun e => e ▸ h5) (h w)
  have h3 : Cmp3.tab.before a s = true := unparts (wk q5 (.code Cmp3.yN Cmp3.yB 6 (some (.array .byte)))) (wks q5 (.initialized Cmp3.yN.cls :: Cmp3.site))
  have q3 : ∀ w ∈ Cmp3.tab :: CodL.tab :: words, w.before a s = true := fun w hw => (List.mem_cons.mp hw).elim (fun e => e ▸ h3) fun hw => (List.mem_cons.mp hw).elim (fun e => e ▸ hc) (h w)
  have h4 : New4.tab.before a s = true := unparts (wk q3 (.code New4.yN New4.yB 6 none)) (wks q3 (.initialized New4.yN.cls :: New4.site))
  have q4 : ∀ w ∈ New4.tab :: words, w.before a s = true := fun w hw => (List.mem_cons.mp hw).elim (fun e => e ▸ h4) (h w)
  exact unparts (wk q4 (.code New1.yN New1.yB 2 none)) (wks q4 (.initialized New1.yN.cls :: New1.site))
/-- the words ride from the start Z to the walk's own state -/
theorem moved {Z s : State} {a0 args : Array Value} (hZ : Z.Warmed39 s.vm) (hw : ∀ d ∈ words, d.before a0 Z = true) : ∀ d ∈ words, d.before args s = true := fun d hd => by
  have q := hw d hd
  have t : ∀ d ∈ words, d = .arrayClass .byte ∨ (d.onTables && d.keepsFace) = true := by decide +kernel
  rcases t d hd with rfl | t
  · exact RoadKit.mvA hZ q
  · exact RoadKit.mv hZ q t
/-- WHAT COMES BACK, over the tables of the start Z: h the heap at the call, h' behind it -/
def Q (Z : State) (x : Addr) (A : Cell) (h : Heap) (v : Option Value) (h' : Heap) (L : List Loc) : Prop := v = none ∧ (∀ y ∈ L, y.base = x) ∧ RoadKit.Keep h h' [x] ∧ h'.size = h.size + 1 ∧ RoadKit.Exa Z h' x ST ∧ RoadKit.Fld Z h' x ST "value" "[B" (.ref h.size) ∧ RoadKit.Fld Z h' x ST "coder" "B" (.int 0) ∧
  (∃ V : Cell, RoadKit.Arr Z h' h.size V .byte ∧ V.vm = .none ∧ Z.vm.findClass "[B" = some V.cls ∧ V.slots.size = A.slots.size ∧ ∀ j, j < A.slots.size → V.slots[j]? = some (.int (lo8 (cv A j)))) ∧
  ∀ (O n d : String) (w : Value), RoadKit.Fld Z h x O n d w → RoadKit.slotOf Z O n d ≠ RoadKit.slotOf Z ST "value" "[B" → RoadKit.slotOf Z O n d ≠ RoadKit.slotOf Z ST "coder" "B" → RoadKit.Fld Z h' x O n d w
/-- **new String(chars) AT A CALL, IN THE ROAD'S FORM**: for specialBack behind newO: x the fresh String, b the char[] with the cell A -/
theorem back {p : Program} {l : Launch} {e : Env} {R : Room} {s : State} {args : Array Value} {below : List Frame} {len W : Nat} {Z : State} {a0 : Array Value} {h : Heap} (hZ : Z.Warmed39 s.vm) (hw : ∀ d ∈ words, d.before a0 Z = true) {kI : Nat} (wi : (Jvm.Cond.instantiable ST kI).before a0 Z = true)
    {x b : Addr} {A : Cell} {z : Int32} {v0 c0 : Value} (E : RoadKit.Exa Z h x ST) (V : RoadKit.Fld Z h x ST "value" "[B" v0) (C : RoadKit.Fld Z h x ST "coder" "B" c0) (K : RoadKit.Arr Z h b A .char) (hty : Typed .char A) (S : RoadKit.Sta Z h ST "COMPACT_STRINGS" "Z" (.int z)) (hz : ¬ z = 0)
    (l0 : 0 < A.slots.size) (l2 : A.slots.size ≤ 536870912) (hp : ∀ i, i < A.slots.size → ¬ 255 < cv A i) (hfr : 4 ≤ R.frames) (hlo : W + 65 ≤ R.locals) :
    Back l R p e below s args New1.yN len W (fun P a => a = #[.ref x, .ref b] ∧ P.U.heap = h ∧ P.cells + 1 ≤ R.cells ∧ P.slots + A.slots.size ≤ R.slots)
      (fun P _ v B => ∃ L, Q Z x A h v B.U.heap L ∧ B.locs = P.locs ++ L ∧ B.cells = P.cells + 1 ∧ B.slots = P.slots + A.slots.size) := by
  intro m meth c P g ig mk a X hg hsize hdg hW hn hp'
  obtain ⟨rfl, rfl, r1, r2⟩ := hp'
  have al : Z.vm.Alike P.U.vm := hZ.alike.trans X.warmed.alike
  obtain ⟨D, cfV, kV, iV, fV, hD, gV, stV, knV, obV, asV, slV⟩ := id V
  obtain ⟨D', cfC, kC, iC, fC, hD', gC, stC, -, -, asC, slC⟩ := id C
  cases hD.symm.trans hD'
  obtain ⟨D2, kD, e1, e2, e3, e4, e5⟩ := id E
  cases hD.symm.trans e1
  obtain ⟨c2, k2, i1, i2, i3, -⟩ := Cond.instantiable_spec wi
  cases e2.symm.trans i1
  cases e3.symm.trans i2
  obtain ⟨kU, u1, u2⟩ := al.2.2 _ _ e3
  have hB : Blank ST x D P.U := ⟨hD, ⟨knV, fun q hq => by rw [hq] at obV; cases obV⟩, by rw [al.findClass]; exact e2, kU, u1, by rw [u2]; exact i3, by rw [u2]; exact e5 i3⟩
  have F1 : Found ST "value" "[B" fV P.U := ⟨SBG.found_only al ⟨cfV, kV, iV, gV⟩, stV⟩
  have F2 : Found ST "coder" "B" fC P.U := ⟨SBG.found_only al ⟨cfC, kC, iC, gC⟩, stC⟩
  have hA : Ch b A P.U := ⟨⟨K.1, State.isArrayOf_alike al K.2.1, K.2.2, by omega⟩, hty⟩
  have hS : StaticIs P.U ST "COMPACT_STRINGS" "Z" (.int z) := by
    obtain ⟨cfS, iS, kS, fS, st, cS, t1, t2, t3, t4, t5, t6, t7⟩ := S
    exact StaticIs.there (s := { Z with heap := P.U.heap }) ⟨cfS, iS, kS, fS, st, cS, t1, t2, t3, t4, t5, (fun q => by rw [q] at t6; cases t6), t7⟩ al rfl
  obtain ⟨v, B, X', ⟨⟨hv, E', V', q1, q2, q3, q4, q5, q6, q7, q8, q9, q10, q11⟩, hl, hc, hs⟩, st⟩ := New1.pays x D fV fC b A z (tab_of (moved hZ hw)) hfr hlo m meth c P g ig mk _ X hg hsize hdg hW hn ⟨r1, r2, rfl, hB, F1, F2, hA, hS, hz, l0, l2, hp⟩
  have al' : Z.vm.Alike B.U.vm := hZ.alike.trans X'.warmed.alike
  have hsz : E'.slots.size = D.slots.size := by
    obtain ⟨-, -, -, kB, w1, w2, w3⟩ := q1
    obtain ⟨kB', y1, y2⟩ := al'.2.2 _ _ e3
    rw [q2.2.1] at w1
    cases w1.symm.trans y1
    rw [w3, e5 i3, y2]
  refine ⟨v, B, X', ⟨_, ⟨hv, ?_, ⟨by omega, fun y cy hy hn' => q10 y cy (by simpa using hn') hy, fun y cy hy => ?_⟩, q11, ⟨E', _, q1.1, by rw [q2.2.1]; exact e2, by rw [q2.2.1]; exact e3, by rw [q2.1]; exact obV, fun _ => by rw [hsz]; exact e5 i3⟩,
    ⟨E', cfV, kV, iV, fV, q1.1, gV, stV, by rw [q2.1]; exact knV, by rw [q2.1]; exact obV, by rw [q2.2.1]; exact asV, q3⟩, ⟨E', cfC, kC, iC, fC, q1.1, gC, stC, by rw [q2.1]; exact knV, by rw [q2.1]; exact obV, by rw [q2.2.1]; exact asC, q4⟩,
    ⟨V', ⟨q5.1, State.isArrayOf_alike al'.symm q5.2.1, q5.2.2.1⟩, q6, by rw [← al'.findClass]; exact q7, q8, fun j hj => by have := q9 j hj; rwa [Nat.zero_add] at this⟩, fun O n d w F n1 n2 => ?_⟩, hl, hc, hs⟩, st⟩
  · intro y hy
    simp only [List.mem_cons, List.not_mem_nil, or_false] at hy
    rcases hy with rfl | rfl <;> rfl
  · by_cases q : y = x
    · subst q
      cases hD.symm.trans hy
      exact ⟨E', q1.1, q2.2.1, q2.1, hsz⟩
    · exact ⟨cy, q10 y cy q hy, rfl, rfl, rfl⟩
  · obtain ⟨D3, cf, k, i, f, g1, g2, g3, g4, g5, g6, g7⟩ := F
    cases hD.symm.trans g1
    simp only [RoadKit.slotOf, g2, gV, gC, Option.map_some, Option.getD_some] at n1 n2
    exact ⟨E', cf, k, i, f, q1.1, g2, g3, by rw [q2.1]; exact g4, by rw [q2.1]; exact g5, by rw [q2.2.1]; exact g6, by rw [q2.2.2 f.slot (by simp [n1, n2])]; exact g7⟩
end StrChars.Road
namespace StrChars.Road
open Jvm Sem ClassFile Op Lib Jvm.Stand Jvm.Free Jvm.Free.XT
/-- WHAT COMES BACK, the byte[] as a list of values -/
def QA (Z : State) (x : Addr) (zn : Int32) (cs : List Int32) (h : Heap) (v : Option Value) (h' : Heap) (L : List Loc) : Prop := v = none ∧ (∀ y ∈ L, y.base = x) ∧ RoadKit.Keep h h' [x] ∧ h'.size = h.size + 1 ∧ RoadKit.Exa Z h' x ST ∧ RoadKit.Fld Z h' x ST "value" "[B" (.ref h.size) ∧ RoadKit.Fld Z h' x ST "coder" "B" (.int 0) ∧
  (∃ kb, Z.vm.findClass "[B" = some kb ∧ RoadKit.Arv Z h' h.size kb .byte zn (cs.map fun c => .int (lo8 c)) (.int 0)) ∧
  ∀ (O n d : String) (w : Value), RoadKit.Fld Z h x O n d w → RoadKit.slotOf Z O n d ≠ RoadKit.slotOf Z ST "value" "[B" → RoadKit.slotOf Z O n d ≠ RoadKit.slotOf Z ST "coder" "B" → RoadKit.Fld Z h' x O n d w
/-- **new String(chars) AT A CALL, THE ARRAYS AS LISTS**: the char[] at b holds cs, not empty, no char above 255 -/
theorem backArv {p : Program} {l : Launch} {e : Env} {R : Room} {s : State} {args : Array Value} {below : List Frame} {len W : Nat} {Z : State} {a0 : Array Value} {h : Heap} (hZ : Z.Warmed39 s.vm) (hw : ∀ d ∈ words, d.before a0 Z = true) {kI : Nat} (wi : (Jvm.Cond.instantiable ST kI).before a0 Z = true)
    {x b : Addr} {k : ClassId} {zn z : Int32} {cs : List Int32} {dv v0 c0 : Value} (E : RoadKit.Exa Z h x ST) (V : RoadKit.Fld Z h x ST "value" "[B" v0) (C : RoadKit.Fld Z h x ST "coder" "B" c0) (K : RoadKit.Arv Z h b k .char zn (cs.map Value.int) dv) (S : RoadKit.Sta Z h ST "COMPACT_STRINGS" "Z" (.int z)) (hz : ¬ z = 0)
    (hlen : zn.toNatClampNeg = cs.length) (h0 : 0 < cs.length) (hbig : cs.length ≤ 536870912) (hall : ∀ c ∈ cs, ¬ 255 < c) (hfr : 4 ≤ R.frames) (hlo : W + 65 ≤ R.locals) :
    Back l R p e below s args New1.yN len W (fun P a => a = #[.ref x, .ref b] ∧ P.U.heap = h ∧ P.cells + 1 ≤ R.cells ∧ P.slots + cs.length ≤ R.slots)
      (fun P _ v B => ∃ L, QA Z x zn cs h v B.U.heap L ∧ B.locs = P.locs ++ L ∧ B.cells = P.cells + 1 ∧ B.slots = P.slots + cs.length) := by
  obtain ⟨A, K1, K2, K3, K4, K5, K6⟩ := K
  have e : A.slots.size = cs.length := K3.trans hlen
  have hat : ∀ (i : Nat) (hi : i < cs.length), A.slots[i]? = some (.int cs[i]) := fun i hi => by rw [K5 i (by omega)]; simp [List.getD_eq_getElem?_getD, hi]
  have hcv : ∀ (i : Nat) (hi : i < cs.length), cv A i = cs[i] := fun i hi => by unfold cv; rw [hat i hi]
  have hty : Typed .char A := fun i v hv => by
    have hi : i < A.slots.size := (Array.getElem?_eq_some_iff.mp hv).1
    have q := K5 i hi
    rw [hv] at q
    rw [Option.some.inj q]
    exact K6 i hi
  refine Back.mono (back hZ hw wi E V C K1 hty S hz (by omega) (by omega) (fun i hi => by rw [hcv i (by omega)]; exact hall _ (List.getElem_mem _)) hfr hlo) (fun P a hp => ⟨hp.1, hp.2.1, hp.2.2.1, by rw [e]; exact hp.2.2.2⟩) (fun P a v B hp hq => ?_)
  obtain ⟨L, ⟨q1, q2, q3, q4, q5, q6, q7, ⟨V', v1, v2, v3, v4, v5⟩, q9⟩, hl, hc, hs⟩ := hq
  refine ⟨L, ⟨q1, q2, q3, q4, q5, q6, q7, ⟨V'.cls, v3, V', v1, rfl, by rw [v4, e, hlen], K4, fun i hi => ?_, fun i hi => ?_⟩, q9⟩, hl, hc, by rw [hs, e]⟩
  · have hi' : i < cs.length := by omega
    rw [v5 i (by omega), hcv i hi']; simp [List.getD_eq_getElem?_getD, hi']
  · have hi' : i < cs.length := by omega
    simp only [List.getD_eq_getElem?_getD, List.getElem?_map, List.getElem?_eq_getElem hi', Option.map_some, Option.getD_some]
    exact fits_lo8 _
end StrChars.Road
namespace StrChars.Road
open Jvm Sem ClassFile Op Lib Jvm.Stand Jvm.Free Jvm.Free.XT
/-- WHAT COMES BACK, in the writer's own shape -/
def QV (Z : State) (x : Addr) (N : Int32) (bs : List Int32) (h : Heap) (n0 : Nat) (v : Option Value) (h' : Heap) (L : List Loc) : Prop := v = none ∧ RoadKit.Fr n0 L ∧ RoadKit.Keep h h' [x] ∧ RoadKit.Exa Z h' x ST ∧ RoadKit.Fld Z h' x ST "coder" "B" (.int 0) ∧
  ∃ (t : Addr) (kb : ClassId), n0 ≤ t ∧ h.size ≤ t ∧ ¬ t = x ∧ RoadKit.Fld Z h' x ST "value" "[B" (.ref t) ∧ RoadKit.Arv Z h' t kb .byte N (bs.map Value.int) (.int 0)
/-- **new String(chars) AT A CALL, FOR THE WRITER**: a char[] of n known ints, each 0 to 255 -/
theorem backV {p : Program} {l : Launch} {e : Env} {R : Room} {s : State} {args : Array Value} {below : List Frame} {len W : Nat} {Z : State} {a0 : Array Value} {h : Heap} (hZ : Z.Warmed39 s.vm) (hw : ∀ d ∈ words, d.before a0 Z = true) {kI : Nat} (wi : (Jvm.Cond.instantiable ST kI).before a0 Z = true)
    {x b : Addr} {kC : ClassId} {cs bs : List Int32} {d v0 c0 : Value} {z N : Int32} {n n0 : Nat} (hx0 : n0 ≤ x) (hh0 : n0 ≤ h.size) (E : RoadKit.Exa Z h x ST) (V : RoadKit.Fld Z h x ST "value" "[B" v0) (C : RoadKit.Fld Z h x ST "coder" "B" c0) (K : RoadKit.Arv Z h b kC .char N (cs.map Value.int) d) (S : RoadKit.Sta Z h ST "COMPACT_STRINGS" "Z" (.int z)) (hz : ¬ z = 0)
    (hn : cs.length = n) (hN : N = Int32.ofNat n) (l0 : 0 < n) (l2 : n ≤ 4000) (hp : ∀ c ∈ cs, ¬ c < 0 ∧ ¬ (255 : Int32) < c) (hb : bs = cs.map (fun c => c.toInt8.toInt32)) (hfr : 4 ≤ R.frames) (hlo : W + 65 ≤ R.locals) :
    Back l R p e below s args (⟨"java/lang/String", "<init>", "([C)V"⟩ : MethodName) len W (fun P a => a = #[.ref x, .ref b] ∧ P.U.heap = h ∧ P.cells + 1 ≤ R.cells ∧ P.slots + n ≤ R.slots)
      (fun P _ v B => ∃ L, QV Z x N bs h n0 v B.U.heap L ∧ B.locs = P.locs ++ L ∧ B.cells = P.cells + 1 ∧ B.slots = P.slots + n) := by
  subst hn hN hb
  refine Back.mono (backArv hZ hw wi E V C K S hz (n32 (by omega)) l0 (by omega) (fun c hc => (hp c hc).2) hfr hlo) (fun P a hp => hp) (fun P a v B hp hq => ?_)
  obtain ⟨L, ⟨q1, q2, q3, q4, q5, q6, q7, ⟨kb, v1, v2⟩, q9⟩, hl, hc, hs⟩ := hq
  exact ⟨L, ⟨q1, fun y hy => by rw [q2 y hy]; exact hx0, q3, q5, q7, h.size, kb, hh0, Nat.le_refl _, Nat.ne_of_gt E.lt, q6, by rw [List.map_map]; exact v2⟩, hl, hc, hs⟩
end StrChars.Road
namespace StrChars
open Jvm Sem ClassFile Op Lib Jvm.Stand Jvm.Free.XT Jvm.Free.ALB Jvm.Free.JM Jvm.Free
open Jvm.Lib.Cold (StaticIs)
def hi8 (x : Int32) : Int32 := lo8 (x >>> ((8 : Int32) &&& 31))
/-- what StringUTF16.getChar makes of two bytes -/
def pairCh (u v : Int32) : Int32 := (((u &&& 255) <<< ((0 : Int32) &&& 31)) ||| ((v &&& 255) <<< ((8 : Int32) &&& 31))).toUInt32.toUInt16.toUInt32.toInt32
theorem shr0 (c : Int32) : c >>> ((0 : Int32) &&& 31) = c := by
  have e : ((0 : Int32) &&& 31) = 0 := by decide
  rw [e]
  apply Int32.toBitVec_inj.mp
  rw [Int32.toBitVec_shiftRight]
  have e1 : ((0 : Int32).toBitVec.smod 32) = 0#32 := by decide
  rw [e1, BitVec.sshiftRight_eq']
  exact BitVec.sshiftRight_zero
theorem lo8_and (x : Int32) : (lo8 x &&& 255).toBitVec.toNat = x.toBitVec.toNat % 256 := by
  have h : (lo8 x).toBitVec = (x.toBitVec.signExtend 8).signExtend 32 := by rw [lo8, Int8.toBitVec_toInt32, Int32.toBitVec_toInt8]
  rw [Int32.toBitVec_and, BitVec.toNat_and, h]
  have e : ((x.toBitVec.signExtend 8).signExtend 32).toNat % 256 = x.toBitVec.toNat % 256 := by
    rw [BitVec.toNat_signExtend]
    have hlt := x.toBitVec.isLt
    simp only [BitVec.toNat_setWidth, BitVec.toNat_signExtend]
    split <;> split <;> omega
  rw [← e]
  exact Nat.and_two_pow_sub_one_eq_mod _ 8
theorem pair_says {c : Int32} (h0 : ¬ c < 0) (h1 : ¬ 65535 < c) : pairCh (lo8 c) (hi8 c) = c := by
  rw [Int32.lt_iff_toInt_lt] at h0 h1
  have e0 : (0 : Int32).toInt = 0 := rfl
  have e1 : (65535 : Int32).toInt = 65535 := rfl
  have hc : c.toInt = c.toBitVec.toNat := by
    have := c.toBitVec.isLt
    have e : c.toInt = c.toBitVec.toInt := rfl
    rw [e] at h0 h1
    rw [e]
    rw [BitVec.toInt_eq_toNat_cond] at h0 h1 ⊢
    split at h0 <;> split <;> omega
  have hn : c.toBitVec.toNat < 65536 := by omega
  have a1 := lo8_and c
  have a2 : (hi8 c &&& 255).toBitVec.toNat = c.toBitVec.toNat / 256 := by
    rw [hi8, lo8_and]
    have e : ((8 : Int32) &&& 31) = 8 := by decide
    rw [e, Int32.toBitVec_shiftRight]
    have e2 : ((8 : Int32).toBitVec.smod 32) = 8#32 := by decide
    rw [e2, BitVec.sshiftRight_eq', BitVec.toNat_sshiftRight_of_msb_false (by rw [BitVec.msb_eq_false_iff_two_mul_lt]; omega)]
    show c.toBitVec.toNat >>> 8 % 256 = _
    rw [Nat.shiftRight_eq_div_pow]
    omega
  unfold pairCh
  apply Int32.toBitVec_inj.mp
  apply BitVec.eq_of_toNat_eq
  have f0 : ((0 : Int32) &&& 31) = 0 := by decide
  have f8 : ((8 : Int32) &&& 31) = 8 := by decide
  rw [f0, f8]
  have g : (((lo8 c &&& 255) <<< (0 : Int32)) ||| ((hi8 c &&& 255) <<< (8 : Int32))).toBitVec.toNat = c.toBitVec.toNat := by
    rw [Int32.toBitVec_or, Int32.toBitVec_shiftLeft, Int32.toBitVec_shiftLeft]
    have s0 : ((0 : Int32).toBitVec.smod 32) = 0#32 := by decide
    have s8 : ((8 : Int32).toBitVec.smod 32) = 8#32 := by decide
    rw [s0, s8, BitVec.toNat_or]
    simp only [BitVec.shiftLeft_eq', BitVec.toNat_shiftLeft, a1, a2]
    show (c.toBitVec.toNat % 256) <<< 0 % 2 ^ 32 ||| (c.toBitVec.toNat / 256) <<< 8 % 2 ^ 32 = _
    rw [Nat.shiftLeft_zero, Nat.mod_eq_of_lt (show c.toBitVec.toNat % 256 < 2 ^ 32 by omega), Nat.mod_eq_of_lt (show (c.toBitVec.toNat / 256) <<< 8 < 2 ^ 32 by rw [Nat.shiftLeft_eq]; omega), Nat.or_comm, ← Nat.shiftLeft_add_eq_or_of_lt (by omega), Nat.shiftLeft_eq]
    omega
  show BitVec.toNat (((((lo8 c &&& 255) <<< (0 : Int32)) ||| ((hi8 c &&& 255) <<< (8 : Int32))).toBitVec.setWidth 16).setWidth 32) = _
  rw [BitVec.toNat_setWidth, BitVec.toNat_setWidth, g]
  omega
end StrChars
namespace StrChars
open Jvm Sem ClassFile Op Lib Jvm.Stand Jvm.Free.XT Jvm.Free.ALB Jvm.Free.JM Jvm.Free
open Jvm.Lib.Cold (StaticIs)
theorem shr1 {n : Nat} (h : 2 * n < 2 ^ 31) : Int32.ofNat (2 * n) >>> ((1 : Int32) &&& 31) = Int32.ofNat n := by
  have e : ((1 : Int32) &&& 31) = 1 := by decide
  rw [e]
  apply Int32.toBitVec_inj.mp
  rw [Int32.toBitVec_shiftRight]
  have e1 : ((1 : Int32).toBitVec.smod 32) = 1#32 := by decide
  have hm : (BitVec.ofNat 32 (2 * n)).toNat = 2 * n := by rw [BitVec.toNat_ofNat, Nat.mod_eq_of_lt (by omega)]
  rw [e1, BitVec.sshiftRight_eq']
  apply BitVec.eq_of_toNat_eq
  show ((BitVec.ofNat 32 (2 * n)).sshiftRight 1).toNat = (BitVec.ofNat 32 n).toNat
  rw [BitVec.toNat_sshiftRight_of_msb_false (by rw [BitVec.msb_eq_false_iff_two_mul_lt, hm]; omega), hm, BitVec.toNat_ofNat, Nat.shiftRight_eq_div_pow]
  omega
/-- charAt's cast of a byte read back -/
def chr8 (u : Int32) : Int32 := (u &&& 255).toUInt32.toUInt16.toUInt32.toInt32
theorem chr8_lo8 {c : Int32} (h0 : ¬ c < 0) (h1 : ¬ 255 < c) : chr8 (lo8 c) = c := by
  have t : ∀ k : Fin 256, (Int32.ofNat k.val).toUInt32.toUInt16.toUInt32.toInt32 = Int32.ofNat k.val := by decide +kernel
  unfold chr8
  rw [lo8_mask h0 h1]
  rw [Int32.lt_iff_toInt_lt] at h0 h1
  have e0 : (0 : Int32).toInt = 0 := rfl
  have e1 : (255 : Int32).toInt = 255 := rfl
  obtain ⟨k, hk⟩ : ∃ k : Nat, c.toInt = k := ⟨c.toInt.toNat, by omega⟩
  have hx : c = Int32.ofNat k := Int32.toInt_inj.mp (by rw [hk, Int32.toInt_ofNat_small (by omega)])
  rw [hx]
  exact t ⟨k, by omega⟩
theorem narrow_ch {c : Int32} (h0 : ¬ c < 0) (h1 : ¬ 65535 < c) : narrow .char (.int c) = .int c := by
  have q : narrow .char (.int (pairCh (lo8 c) (hi8 c))) = .int (pairCh (lo8 c) (hi8 c)) := narrow_c _
  rwa [pair_says h0 h1] at q
/-- the array's cell V codes the n chars f 0 .. f (n - 1) by the coder cd, as the JDK does: coder 1 just where some char is above 255 -/
def Cod (cd : Int32) (n : Nat) (f : Nat → Int32) (V : Cell) : Prop := (cd = 0 ∧ V.slots.size = n ∧ ∀ j, j < n → V.slots[j]? = some (.int (lo8 (f j))) ∧ ¬ 255 < f j) ∨ (cd = 1 ∧ V.slots.size = 2 * n ∧ (∀ j, j < n → V.slots[2 * j]? = some (.int (lo8 (f j))) ∧ V.slots[2 * j + 1]? = some (.int (hi8 (f j)))) ∧ ∃ j, j < n ∧ 255 < f j)
theorem Cod.cd {cd : Int32} {n : Nat} {f : Nat → Int32} {V : Cell} (h : Cod cd n f V) : cd = 0 ∨ cd = 1 := h.imp (fun q => q.1) fun q => q.1
theorem Cod.len {cd : Int32} {n : Nat} {f : Nat → Int32} {V : Cell} (h : Cod cd n f V) (hs : V.slots.size < 2 ^ 31) : Int32.ofNat V.slots.size >>> (cd &&& 31) = Int32.ofNat n := by
  rcases h with ⟨rfl, h, -⟩ | ⟨rfl, h, -⟩
  · rw [shr0, h]
  · rw [h, shr1 (by omega)]
/-- **x is a String of the n chars f 0 .. f (n - 1)**, Latin-1 or UTF-16; its array at t has the cell V -/
def Txt (x t : Addr) (V : Cell) (cd : Int32) (n : Nat) (f : Nat → Int32) (U : State) : Prop := Exact "java/lang/String" x U ∧ Has x "java/lang/String" "value" "[B" (.ref t) U ∧ Has x "java/lang/String" "coder" "B" (.int cd) U ∧ XT.Arr .byte t V U ∧ Cod cd n f V ∧ ∀ j, j < n → ¬ f j < 0 ∧ ¬ 65535 < f j
theorem Txt.mv {x t : Addr} {V : Cell} {cd : Int32} {n : Nat} {f : Nat → Int32} {U U' : State} (h : Txt x t V cd n f U) (hal : U.vm.Alike U'.vm) (hh : U'.heap = U.heap) : Txt x t V cd n f U' := ⟨h.1.mv hal hh, h.2.1.mv hal hh, h.2.2.1.mv hal hh, h.2.2.2.1.mv hal hh, h.2.2.2.2⟩
namespace Cdr
def yN : MethodName := ⟨"java/lang/String", "coder", "()B"⟩
abbrev yB : ByteArray := jdk_42_method_152_code
theorem d0 : decode yB 0 = .ok (.getstatic 38, 3) := by decide +kernel
theorem d3 : decode yB 3 = .ok (.ifCond (.eq) 10, 3) := by decide +kernel
theorem d6 : decode yB 6 = .ok (.aload_n 0, 1) := by decide +kernel
theorem d7 : decode yB 7 = .ok (.getfield 15, 3) := by decide +kernel
theorem d10 : decode yB 10 = .ok (.goto 4, 3) := by decide +kernel
theorem d14 : decode yB 14 = .ok (.ireturn, 1) := by decide +kernel
def site : List Cond := [.fieldLink "java/lang/String" 38 "java/lang/String" "COMPACT_STRINGS" "Z", .fieldLink "java/lang/String" 15 "java/lang/String" "coder" "B"]
def tab : Cond := tabOf yN yB 1 (some .byte) site
def P (x : Addr) (cd z : Int32) (args : Array Value) (s : State) : Prop := args = #[.ref x] ∧ Has x "java/lang/String" "coder" "B" (.int cd) s ∧ (cd = 0 ∨ cd = 1) ∧ StaticIs s "java/lang/String" "COMPACT_STRINGS" "Z" (.int z) ∧ ¬ z = 0
def E (cd : Int32) (r : Option Value) (s u : State) : Prop := XT.PureE (some (.int cd)) r s u
theorem law (l : Launch) (x : Addr) (cd z : Int32) : Law l yN 1 0 0 0 yB 1 (some .byte) site (P x cd z) (E cd) [] 0 0 := by
  refine Law.of_walk (plainFor_of_name (by decide +kernel)) (by decide +kernel) (by decide +kernel) (by decide) (fun _ _ h => by rw [h.1]; rfl) (fun _ U U' hal hh h => ⟨h.1, h.2.1.mv hal hh, h.2.2.1, h.2.2.2.1.there hal hh, h.2.2.2.2⟩) (fun r U U' V V' h1 hal h2 h => XT.PureE.mv r U U' V V' h1 hal h2 h) ?_
  intro p e s m args below meth c s₁ X0 hexec hbytes hml hret hlk hnm hown hh0 W hP
  obtain ⟨rfl, hx, hc, s1, hz⟩ := hP
  have c1 : Steps p.tables e below (s₁.setTop (entryFrame m #[.ref x] 1)) (s₁.setTop (mkF m 0 #[.val (.ref x)] [])) := entry rfl
  obtain ⟨T2, X2, q2, st2⟩ := X0.sget hexec hown (wk W (.fieldLink "java/lang/String" 38 "java/lang/String" "COMPACT_STRINGS" "Z")) s1 (fun _ _ h => by rw [hh0]; exact h) (g := (mkF m 0 #[.val (.ref x)] [])) rfl (hb hbytes d0)
  have hh2 := q2.trans hh0
  have c3 : Steps p.tables e below (s₁.setTop (entryFrame m #[.ref x] 1)) (T2.setTop (mkF m 7 #[.val (.ref x)] [.ref x])) := (c1.trans (st2 _ (Steps.refl _))).trans (by
    refine XS.ifNo X2.here hexec rfl (hb hbytes d3) rfl (i0_eq_f hz) ?_
    refine XS.aloadN X2.here hexec rfl (hb hbytes d6) rfl rfl ?_
    exact Steps.refl _)
  obtain ⟨T4, X4, q4, st4⟩ := X2.hget hexec hown (wk W (.fieldLink "java/lang/String" 15 "java/lang/String" "coder" "B")) (hx.mv X2.warmed.alike hh2) (g := (mkF m 7 #[.val (.ref x)] [.ref x])) rfl (rest := []) rfl (hb hbytes d7)
  have c5 : Steps p.tables e below (s₁.setTop (entryFrame m #[.ref x] 1)) (T4.setTop (mkF m 14 #[.val (.ref x)] [.int cd])) := (c3.trans (st4 _ (Steps.refl _))).trans (by
    refine XS.goto X4.here hexec rfl (pc0 := 10) rfl (hb hbytes d10) (by decide) rfl ?_
    exact Steps.refl _)
  exact ⟨T4, some (.int cd), _, _, _, X4, rfl, rfl, rfl, (fun h => by cases h), ⟨rfl, q4.trans hh2⟩, fun fs hl => c5.trans (X4.ireturnOut hexec hret (by rcases hc with rfl | rfl <;> rfl) (Or.inr (Or.inr (Or.inl rfl))) (hb hbytes d14) hl)⟩
end Cdr
namespace Len
def yN : MethodName := ⟨"java/lang/String", "length", "()I"⟩
abbrev yB : ByteArray := jdk_42_method_54_code
theorem d0 : decode yB 0 = .ok (.aload_n 0, 1) := by decide +kernel
theorem d1 : decode yB 1 = .ok (.getfield 9, 3) := by decide +kernel
theorem d4 : decode yB 4 = .ok (.arraylength, 1) := by decide +kernel
theorem d5 : decode yB 5 = .ok (.aload_n 0, 1) := by decide +kernel
theorem d6 : decode yB 6 = .ok (.invokevirtual 335, 3) := by decide +kernel
theorem d9 : decode yB 9 = .ok (.ishr, 1) := by decide +kernel
theorem d10 : decode yB 10 = .ok (.ireturn, 1) := by decide +kernel
def site : List Cond := [.fieldLink "java/lang/String" 9 "java/lang/String" "value" "[B", Cdr.tab] ++ virtW "java/lang/String" 335 "java/lang/String" Cdr.yN Cdr.yN
def tab : Cond := tabOf yN yB 1 (some .int) site
def P (x t : Addr) (V : Cell) (cd : Int32) (n : Nat) (f : Nat → Int32) (z : Int32) (args : Array Value) (s : State) : Prop := args = #[.ref x] ∧ Txt x t V cd n f s ∧ StaticIs s "java/lang/String" "COMPACT_STRINGS" "Z" (.int z) ∧ ¬ z = 0
def E (n : Nat) (r : Option Value) (s u : State) : Prop := XT.PureE (some (.int (Int32.ofNat n))) r s u
/-- length() of a String of n chars, in either coding -/
theorem law (l : Launch) (x t : Addr) (V : Cell) (cd : Int32) (n : Nat) (f : Nat → Int32) (z : Int32) : Law l yN 1 0 1 13 yB 1 (some .int) site (P x t V cd n f z) (E n) [] 0 0 := by
  refine Law.of_walk (plainFor_of_name (by decide +kernel)) (by decide +kernel) (by decide +kernel) (by decide) (fun _ _ h => by rw [h.1]; rfl) (fun _ U U' hal hh h => ⟨h.1, h.2.1.mv hal hh, h.2.2.1.there hal hh, h.2.2.2⟩) (fun r U U' V V' h1 hal h2 h => XT.PureE.mv r U U' V V' h1 hal h2 h) ?_
  intro p e s m args below meth c s₁ X0 hexec hbytes hml hret hlk hnm hown hh0 W hP
  obtain ⟨rfl, hx, s1, hz⟩ := hP
  have v31 := hx.2.2.2.1.2.2.2
  have c1 : Steps p.tables e below (s₁.setTop (entryFrame m #[.ref x] 1)) (s₁.setTop (mkF m 1 #[.val (.ref x)] [.ref x])) := Steps.trans (entry rfl) (by
    show Steps p.tables e below (s₁.setTop (mkF m 0 #[.val (.ref x)] [])) _
    refine XS.aloadN X0.here hexec rfl (hb hbytes d0) rfl rfl ?_
    exact Steps.refl _)
  obtain ⟨T2, X2, q2, st2⟩ := X0.hget hexec hown (wk W (.fieldLink "java/lang/String" 9 "java/lang/String" "value" "[B")) (hx.mv X0.warmed.alike hh0).2.1 (g := (mkF m 1 #[.val (.ref x)] [.ref x])) rfl (rest := []) rfl (hb hbytes d1)
  have hh2 := q2.trans hh0
  have hx2 := hx.mv X2.warmed.alike hh2
  have c3 : Steps p.tables e below (s₁.setTop (entryFrame m #[.ref x] 1)) (T2.setTop (mkF m 6 #[.val (.ref x)] [.ref x, .int (Int32.ofNat V.slots.size)])) := (c1.trans (st2 _ (Steps.refl _))).trans (by
    refine X2.alen hexec hx2.2.2.2.1 rfl rfl (hb hbytes d4) ?_
    refine XS.aloadN X2.here hexec rfl (hb hbytes d5) rfl rfl ?_
    exact Steps.refl _)
  obtain ⟨v4, T4, X4, E4, g4⟩ := X2.callV hexec (Cdr.law l x cd z) hown (wks W (virtW "java/lang/String" 335 "java/lang/String" Cdr.yN Cdr.yN)) rfl (by decide) (wk W Cdr.tab) (W := 1) (Nat.le_of_ble_eq_true rfl) (Nat.le_of_ble_eq_true rfl) (Nat.le_refl _) (Nat.le_refl _) (hx2.1.fc X2.warmed.alike) hx2.1.is (g := (mkF m 6 #[.val (.ref x)] [.ref x, .int (Int32.ofNat V.slots.size)])) rfl (by rw [hml]; rfl) c3 (argsL := []) (rest := [.int (Int32.ofNat V.slots.size)]) rfl rfl (by show 2 * 0 + (1 + 0) ≤ _; decide) (hb hbytes d6) (⟨rfl, hx2.2.2.1, hx.2.2.2.2.1.cd, s1.there X2.warmed.alike hh2, hz⟩)
  obtain ⟨rfl, q4⟩ := E4
  have c5 : Steps p.tables e below (s₁.setTop (entryFrame m #[.ref x] 1)) (T4.setTop (mkF m 10 #[.val (.ref x)] [.int (Int32.ofNat V.slots.size >>> (cd &&& 31))])) := Steps.trans g4 (by
    refine ishr X4.here hexec rfl (hb hbytes d9) rfl ?_
    exact Steps.refl _)
  rw [hx.2.2.2.2.1.len v31] at c5
  exact ⟨T4, some (.int (Int32.ofNat n)), _, _, _, X4, rfl, rfl, rfl, (fun h => by cases h), ⟨rfl, q4.trans hh2⟩, fun fs hl => c5.trans (X4.ireturnOut hexec hret rfl (Or.inl rfl) (hb hbytes d10) hl)⟩
theorem pays {l : Launch} {R : Room} {p : Program} {e : Env} {below : List Frame} {s : State} {sargs : Array Value} {len W : Nat} (x t : Addr) (V : Cell) (cd : Int32) (n : Nat) (f : Nat → Int32) (z : Int32) (htab : tab.before sargs s = true) (hfr : 2 ≤ R.frames) (hlo : W + 25 ≤ R.locals) :
    Back l R p e below s sargs yN len W (fun A₁ a₁ => A₁.cells + 0 ≤ R.cells ∧ A₁.slots + 0 ≤ R.slots ∧ P x t V cd n f z a₁ A₁.U) (fun A₁ _ v₁ B₁ => E n v₁ A₁.U B₁.U ∧ B₁.locs = A₁.locs ++ [] ∧ B₁.cells = A₁.cells + 0 ∧ B₁.slots = A₁.slots + 0) :=
  (law l x t V cd n f z).pays htab hfr (by omega)
end Len
namespace IsL
def yN : MethodName := ⟨"java/lang/String", "isLatin1", "()Z"⟩
abbrev yB : ByteArray := jdk_42_method_154_code
theorem d0 : decode yB 0 = .ok (.getstatic 38, 3) := by decide +kernel
theorem d3 : decode yB 3 = .ok (.ifCond (.eq) 14, 3) := by decide +kernel
theorem d6 : decode yB 6 = .ok (.aload_n 0, 1) := by decide +kernel
theorem d7 : decode yB 7 = .ok (.getfield 15, 3) := by decide +kernel
theorem d10 : decode yB 10 = .ok (.ifCond (.ne) 7, 3) := by decide +kernel
theorem d13 : decode yB 13 = .ok (.iconst 1, 1) := by decide +kernel
theorem d14 : decode yB 14 = .ok (.goto 4, 3) := by decide +kernel
theorem d17 : decode yB 17 = .ok (.iconst 0, 1) := by decide +kernel
theorem d18 : decode yB 18 = .ok (.ireturn, 1) := by decide +kernel
def site : List Cond := [.fieldLink "java/lang/String" 38 "java/lang/String" "COMPACT_STRINGS" "Z", .fieldLink "java/lang/String" 15 "java/lang/String" "coder" "B"]
def tab : Cond := tabOf yN yB 1 (some .boolean) site
def P (x : Addr) (cd z : Int32) (args : Array Value) (s : State) : Prop := args = #[.ref x] ∧ Has x "java/lang/String" "coder" "B" (.int cd) s ∧ (cd = 0 ∨ cd = 1) ∧ StaticIs s "java/lang/String" "COMPACT_STRINGS" "Z" (.int z) ∧ ¬ z = 0
def E (cd : Int32) (r : Option Value) (s u : State) : Prop := XT.PureE (some (.int (1 - cd))) r s u
theorem law (l : Launch) (x : Addr) (cd z : Int32) : Law l yN 1 0 0 0 yB 1 (some .boolean) site (P x cd z) (E cd) [] 0 0 := by
  refine Law.of_walk (plainFor_of_name (by decide +kernel)) (by decide +kernel) (by decide +kernel) (by decide) (fun _ _ h => by rw [h.1]; rfl) (fun _ U U' hal hh h => ⟨h.1, h.2.1.mv hal hh, h.2.2.1, h.2.2.2.1.there hal hh, h.2.2.2.2⟩) (fun r U U' V V' h1 hal h2 h => XT.PureE.mv r U U' V V' h1 hal h2 h) ?_
  intro p e s m args below meth c s₁ X0 hexec hbytes hml hret hlk hnm hown hh0 W hP
  obtain ⟨rfl, hx, hc, s1, hz⟩ := hP
  have c1 : Steps p.tables e below (s₁.setTop (entryFrame m #[.ref x] 1)) (s₁.setTop (mkF m 0 #[.val (.ref x)] [])) := entry rfl
  obtain ⟨T2, X2, q2, st2⟩ := X0.sget hexec hown (wk W (.fieldLink "java/lang/String" 38 "java/lang/String" "COMPACT_STRINGS" "Z")) s1 (fun _ _ h => by rw [hh0]; exact h) (g := (mkF m 0 #[.val (.ref x)] [])) rfl (hb hbytes d0)
  have hh2 := q2.trans hh0
  have c3 : Steps p.tables e below (s₁.setTop (entryFrame m #[.ref x] 1)) (T2.setTop (mkF m 7 #[.val (.ref x)] [.ref x])) := (c1.trans (st2 _ (Steps.refl _))).trans (by
    refine XS.ifNo X2.here hexec rfl (hb hbytes d3) rfl (i0_eq_f hz) ?_
    refine XS.aloadN X2.here hexec rfl (hb hbytes d6) rfl rfl ?_
    exact Steps.refl _)
  obtain ⟨T4, X4, q4, st4⟩ := X2.hget hexec hown (wk W (.fieldLink "java/lang/String" 15 "java/lang/String" "coder" "B")) (hx.mv X2.warmed.alike hh2) (g := (mkF m 7 #[.val (.ref x)] [.ref x])) rfl (rest := []) rfl (hb hbytes d7)
  have c5 : Steps p.tables e below (s₁.setTop (entryFrame m #[.ref x] 1)) (T4.setTop (mkF m 10 #[.val (.ref x)] [.int cd])) := c3.trans (st4 _ (Steps.refl _))
  have c6 : Steps p.tables e below (s₁.setTop (entryFrame m #[.ref x] 1)) (T4.setTop (mkF m 18 #[.val (.ref x)] [.int (1 - cd)])) := by
    rcases hc with rfl | rfl
    · exact c5.trans (by
        refine XS.ifNo X4.here hexec rfl (hb hbytes d10) rfl (i0_ne_f rfl) ?_
        refine iconstV X4.here hexec rfl 1 (hb hbytes d13) (by decide) ?_
        refine XS.goto X4.here hexec rfl (pc0 := 14) rfl (hb hbytes d14) (by decide) rfl ?_
        exact Steps.refl _)
    · exact c5.trans (by
        refine XS.ifYes X4.here hexec rfl (pc0 := 10) rfl (hb hbytes d10) rfl (i0_ne_t (by decide)) (by decide) rfl ?_
        refine iconstV X4.here hexec rfl 0 (hb hbytes d17) (by decide) ?_
        exact Steps.refl _)
  exact ⟨T4, some (.int (1 - cd)), _, _, _, X4, rfl, rfl, rfl, (fun h => by cases h), ⟨rfl, q4.trans hh2⟩, fun fs hl => c6.trans (X4.ireturnOut hexec hret (by rcases hc with rfl | rfl <;> rfl) (Or.inr (Or.inl rfl)) (hb hbytes d18) hl)⟩
end IsL
namespace LChA
def yN : MethodName := ⟨"java/lang/StringLatin1", "charAt", "([BI)C"⟩
abbrev yB : ByteArray := jdk_43_method_2_code
theorem d0 : decode yB 0 = .ok (.iload_n 1, 1) := by decide +kernel
theorem d1 : decode yB 1 = .ok (.aload_n 0, 1) := by decide +kernel
theorem d2 : decode yB 2 = .ok (.arraylength, 1) := by decide +kernel
theorem d3 : decode yB 3 = .ok (.invokestatic 9, 3) := by decide +kernel
theorem d6 : decode yB 6 = .ok (.aload_n 0, 1) := by decide +kernel
theorem d7 : decode yB 7 = .ok (.iload_n 1, 1) := by decide +kernel
theorem d8 : decode yB 8 = .ok (.baload, 1) := by decide +kernel
theorem d9 : decode yB 9 = .ok (.sipush 255, 3) := by decide +kernel
theorem d12 : decode yB 12 = .ok (.iand, 1) := by decide +kernel
theorem d13 : decode yB 13 = .ok (.i2c, 1) := by decide +kernel
theorem d14 : decode yB 14 = .ok (.ireturn, 1) := by decide +kernel
def site : List Cond := [JO.Str_checkIndex.tab] ++ staticW "java/lang/StringLatin1" 9 JO.Str_checkIndex.yN
def tab : Cond := tabOf yN yB 2 (some .char) site
def P (t : Addr) (V : Cell) (i : Nat) (u : Int32) (fm : Value) (args : Array Value) (s : State) : Prop := args = #[.ref t, .int (Int32.ofNat i)] ∧ XT.Arr .byte t V s ∧ V.slots[i]? = some (.int u) ∧ (StaticIs s "jdk/internal/util/Preconditions" "SIOOBE_FORMATTER" "Ljava/util/function/BiFunction;" fm ∧ fm.isRef = true)
def E (u : Int32) (r : Option Value) (s w : State) : Prop := XT.PureE (some (.int (chr8 u))) r s w
theorem law (l : Launch) (t : Addr) (V : Cell) (i : Nat) (u : Int32) (fm : Value) : Law l yN 2 2 2 27 yB 2 (some .char) site (P t V i u fm) (E u) [] 0 0 := by
  refine Law.of_walk (plainFor_of_name (by decide +kernel)) (by decide +kernel) (by decide +kernel) (by decide) (fun _ _ h => by rw [h.1]; rfl) (fun _ U U' hal hh h => ⟨h.1, h.2.1.mv hal hh, h.2.2.1, h.2.2.2.1.there hal hh, h.2.2.2.2⟩) (fun r U U' V V' h1 hal h2 h => XT.PureE.mv r U U' V V' h1 hal h2 h) ?_
  intro p e s m args below meth c s₁ X0 hexec hbytes hml hret hlk hnm hown hh0 W hP
  obtain ⟨rfl, hV, hu, s1, rf⟩ := hP
  have v31 := hV.2.2.2
  have hi : i < V.slots.size := (Array.getElem?_eq_some_iff.mp hu).1
  have c1 : Steps p.tables e below (s₁.setTop (entryFrame m #[.ref t, .int (Int32.ofNat i)] 2)) (s₁.setTop (mkF m 0 #[.val (.ref t), .val (.int (Int32.ofNat i))] [])) := entry rfl
  have c2 : Steps p.tables e below (s₁.setTop (entryFrame m #[.ref t, .int (Int32.ofNat i)] 2)) (s₁.setTop (mkF m 3 #[.val (.ref t), .val (.int (Int32.ofNat i))] [.int (Int32.ofNat V.slots.size), .int (Int32.ofNat i)])) := c1.trans (by
    refine XS.iloadN X0.here hexec rfl (hb hbytes d0) rfl ?_
    refine XS.aloadN X0.here hexec rfl (hb hbytes d1) rfl rfl ?_
    refine X0.alen hexec (hV.mv X0.warmed.alike hh0) rfl rfl (hb hbytes d2) ?_
    exact Steps.refl _)
  obtain ⟨v3, T3, X3, E3, g3⟩ := X0.callS hexec (JO.Str_checkIndex.law l (Int32.ofNat i) (Int32.ofNat V.slots.size) fm) hown (wks W (staticW "java/lang/StringLatin1" 9 JO.Str_checkIndex.yN)) (wk W JO.Str_checkIndex.tab) (W := 0) (Nat.le_of_ble_eq_true rfl) (Nat.le_of_ble_eq_true rfl) (Nat.le_refl _) (Nat.le_refl _) (g := (mkF m 3 #[.val (.ref t), .val (.int (Int32.ofNat i))] [.int (Int32.ofNat V.slots.size), .int (Int32.ofNat i)])) rfl (by rw [hml]; rfl) c2 (argsL := [.int (Int32.ofNat i), .int (Int32.ofNat V.slots.size)]) (rest := []) rfl rfl (by show 2 * 0 + 0 ≤ _; decide) (hb hbytes d3) (⟨rfl, rf, s1.there X0.warmed.alike hh0, Int32.ofNat_not_neg (by omega), lt32 v31 hi⟩)
  obtain ⟨rfl, q3⟩ := E3
  have hh3 := q3.trans hh0
  have c4 : Steps p.tables e below (s₁.setTop (entryFrame m #[.ref t, .int (Int32.ofNat i)] 2)) (T3.setTop (mkF m 14 #[.val (.ref t), .val (.int (Int32.ofNat i))] [.int (chr8 u)])) := Steps.trans g3 (by
    refine XS.aloadN X3.here hexec rfl (hb hbytes d6) rfl rfl ?_
    refine XS.iloadN X3.here hexec rfl (hb hbytes d7) rfl ?_
    refine X3.aget hexec (hV.mv X3.warmed.alike hh3) rfl hu rfl rfl (hb hbytes d8) ?_
    refine sipushV X3.here hexec rfl 255 (hb hbytes d9) (by decide) ?_
    refine XS.iand X3.here hexec rfl (hb hbytes d12) rfl ?_
    refine i2c X3.here hexec rfl (hb hbytes d13) rfl ?_
    exact Steps.refl _)
  exact ⟨T3, some (.int (chr8 u)), _, _, _, X3, rfl, rfl, rfl, (fun h => by cases h), ⟨rfl, hh3⟩, fun fs hl => c4.trans (X3.ireturnOut hexec hret (narrow_c _) (Or.inr (Or.inr (Or.inr (Or.inl rfl)))) (hb hbytes d14) hl)⟩
end LChA
end StrChars
namespace StrChars.Road
open Jvm Sem ClassFile Op Lib Jvm.Stand Jvm.Free Jvm.Free.XT
open Jvm.Lib.Cold (StaticIs)
theorem consq {a : Array Value} {s : State} {c : Jvm.Cond} {L : List Jvm.Cond} (h0 : c.before a s = true) (h : ∀ w ∈ L, w.before a s = true) : ∀ w ∈ c :: L, w.before a s = true := fun w hw => (List.mem_cons.mp hw).elim (fun e => e ▸ h0) (h w)
/-- the words of String.length(), either coding -/
abbrev wordsLen : List Jvm.Cond := [.code Len.yN Len.yB 1 (some .int), .initialized ST, .fieldLink ST 9 ST "value" "[B", .fieldLink ST 38 ST "COMPACT_STRINGS" "Z", .fieldLink ST 15 ST "coder" "B", .code Cdr.yN Cdr.yB 1 (some .byte), .methodLink ST 335 Cdr.yN, .declares Cdr.yN, .selects ST Cdr.yN Cdr.yN, .instanceMethod Cdr.yN]
theorem tabLen_of {a : Array Value} {s : State} (h : ∀ w ∈ wordsLen, w.before a s = true) : Len.tab.before a s = true := by
  have hc : Cdr.tab.before a s = true := unparts (wk h (.code Cdr.yN Cdr.yB 1 (some .byte))) (wks h (.initialized Cdr.yN.cls :: Cdr.site))
  have q := consq hc h
  exact unparts (wk q (.code Len.yN Len.yB 1 (some .int))) (wks q (.initialized Len.yN.cls :: Len.site))
theorem movedLen {Z s : State} {a0 args : Array Value} (hZ : Z.Warmed39 s.vm) (hw : ∀ d ∈ wordsLen, d.before a0 Z = true) : ∀ d ∈ wordsLen, d.before args s = true := fun d hd => by
  have q := hw d hd
  have t : ∀ d ∈ wordsLen, d = .arrayClass .byte ∨ (d.onTables && d.keepsFace) = true := by decide +kernel
  rcases t d hd with rfl | t
  · exact RoadKit.mvA hZ q
  · exact RoadKit.mv hZ q t
/-- the bytes of the chars cs, low before high -/
def wideBytes : List Int32 → List Value
  | [] => []
  | c :: cs => .int (lo8 c) :: .int (hi8 c) :: wideBytes cs
theorem wide_lo (d : Value) : ∀ (cs : List Int32) (j : Nat), j < cs.length → (wideBytes cs).getD (2 * j) d = .int (lo8 (cs.getD j 0))
  | [], j, h => absurd h (Nat.not_lt_zero j)
  | c :: cs, 0, _ => rfl
  | c :: cs, j + 1, h => by
    have q := wide_lo d cs j (by simpa using h)
    rw [show 2 * (j + 1) = 2 * j + 1 + 1 from by omega]
    simpa [wideBytes] using q
theorem wide_hi (d : Value) : ∀ (cs : List Int32) (j : Nat), j < cs.length → (wideBytes cs).getD (2 * j + 1) d = .int (hi8 (cs.getD j 0))
  | [], j, h => absurd h (Nat.not_lt_zero j)
  | c :: cs, 0, _ => rfl
  | c :: cs, j + 1, h => by
    have q := wide_hi d cs j (by simpa using h)
    rw [show 2 * (j + 1) + 1 = 2 * j + 1 + 1 + 1 from by omega]
    simpa [wideBytes] using q
theorem low_at (d : Value) (cs : List Int32) (j : Nat) (h : j < cs.length) : (cs.map fun c => Value.int (lo8 c)).getD j d = .int (lo8 (cs.getD j 0)) := by
  simp [List.getD_eq_getElem?_getD, h]
/-- an array of N2 bytes vs codes the chars cs by the coder cd -/
def CodA (cs : List Int32) (cd N2 : Int32) (vs : List Value) : Prop := (cd = 0 ∧ N2 = Int32.ofNat cs.length ∧ vs = (cs.map fun c => Value.int (lo8 c)) ∧ ∀ c ∈ cs, ¬ 255 < c) ∨ (cd = 1 ∧ N2 = Int32.ofNat (2 * cs.length) ∧ vs = wideBytes cs ∧ ∃ c ∈ cs, 255 < c)
theorem CodA.cod {cs : List Int32} {cd N2 : Int32} {vs : List Value} {V : Cell} (h : CodA cs cd N2 vs) (hn : 2 * cs.length < 2 ^ 31) (hs : V.slots.size = N2.toNatClampNeg) (hv : RoadKit.Has V vs (.int 0)) : Cod cd cs.length (fun j => cs.getD j 0) V := by
  rcases h with ⟨rfl, rfl, rfl, h⟩ | ⟨rfl, rfl, rfl, c, hc, hw⟩
  · rw [n32 (by omega)] at hs
    exact Or.inl ⟨rfl, hs, fun j hj => ⟨by rw [hv j (by omega), low_at _ _ _ hj], by
      have e : cs.getD j 0 = cs[j] := by simp [List.getD_eq_getElem?_getD, hj]
      show ¬ 255 < cs.getD j 0
      rw [e]; exact h _ (List.getElem_mem _)⟩⟩
  · rw [n32 (by omega)] at hs
    obtain ⟨j, hj, rfl⟩ := List.getElem_of_mem hc
    exact Or.inr ⟨rfl, hs, fun j hj => ⟨by rw [hv _ (by omega), wide_lo _ _ _ hj], by rw [hv _ (by omega), wide_hi _ _ _ hj]⟩, j, hj, by
      have e : cs.getD j 0 = cs[j] := by simp [List.getD_eq_getElem?_getD, hj]
      show 255 < cs.getD j 0
      rw [e]; exact hw⟩
/-- an object of exactly java/lang/String, its two fields found: as the laws ask it -/
theorem strObj {Z U : State} {a0 : Array Value} {kI : Nat} (wi : (Jvm.Cond.instantiable ST kI).before a0 Z = true) (al : Z.vm.Alike U.vm) {x : Addr} {v0 c0 : Value} (E : RoadKit.Exa Z U.heap x ST) (V : RoadKit.Fld Z U.heap x ST "value" "[B" v0) (C : RoadKit.Fld Z U.heap x ST "coder" "B" c0) :
    ∃ (D : Cell) (fV fC : Field), Blank ST x D U ∧ Found ST "value" "[B" fV U ∧ Found ST "coder" "B" fC U ∧ D.slots[fV.slot]? = some v0 ∧ D.slots[fC.slot]? = some c0 ∧ RoadKit.slotOf Z ST "value" "[B" = fV.slot ∧ RoadKit.slotOf Z ST "coder" "B" = fC.slot := by
  obtain ⟨D, cfV, kV, iV, fV, hD, gV, stV, knV, obV, asV, slV⟩ := V
  obtain ⟨D', cfC, kC, iC, fC, hD', gC, stC, -, -, asC, slC⟩ := C
  cases hD.symm.trans hD'
  obtain ⟨D2, kD, e1, e2, e3, e4, e5⟩ := E
  cases hD.symm.trans e1
  obtain ⟨c2, k2, i1, i2, i3, -⟩ := Cond.instantiable_spec wi
  cases e2.symm.trans i1
  cases e3.symm.trans i2
  obtain ⟨kU, u1, u2⟩ := al.2.2 _ _ e3
  exact ⟨D, fV, fC, ⟨hD, ⟨knV, fun q hq => by rw [hq] at obV; cases obV⟩, by rw [al.findClass]; exact e2, kU, u1, by rw [u2]; exact i3, by rw [u2]; exact e5 i3⟩, ⟨SBG.found_only al ⟨cfV, kV, iV, gV⟩, stV⟩, ⟨SBG.found_only al ⟨cfC, kC, iC, gC⟩, stC⟩, slV, slC, by simp [RoadKit.slotOf, gV], by simp [RoadKit.slotOf, gC]⟩
theorem sta_is {Z U : State} (al : Z.vm.Alike U.vm) {C n d : String} {v : Value} (S : RoadKit.Sta Z U.heap C n d v) : StaticIs U C n d v := by
  obtain ⟨cfS, iS, kS, fS, st, cS, t1, t2, t3, t4, t5, t6, t7⟩ := S
  exact StaticIs.there (s := { Z with heap := U.heap }) ⟨cfS, iS, kS, fS, st, cS, t1, t2, t3, t4, t5, (fun q => by rw [q] at t6; cases t6), t7⟩ al rfl
/-- **length() OF SUCH A STRING** -/
theorem lenW {p : Program} {l : Launch} {e : Env} {R : Room} {s : State} {args : Array Value} {below : List Frame} {len W : Nat} {Z : State} {a0 : Array Value} {h : Heap} (hZ : Z.Warmed39 s.vm) (hw : ∀ d ∈ wordsLen, d.before a0 Z = true) {kI : Nat} (wi : (Jvm.Cond.instantiable ST kI).before a0 Z = true)
    {x t : Addr} {kb : ClassId} {cs : List Int32} {cd N2 z : Int32} {vs : List Value} (E : RoadKit.Exa Z h x ST) (V : RoadKit.Fld Z h x ST "value" "[B" (.ref t)) (C : RoadKit.Fld Z h x ST "coder" "B" (.int cd)) (K : RoadKit.Arv Z h t kb .byte N2 vs (.int 0)) (hc : CodA cs cd N2 vs) (hb : ∀ c ∈ cs, ¬ c < 0 ∧ ¬ (65535 : Int32) < c)
    (S : RoadKit.Sta Z h ST "COMPACT_STRINGS" "Z" (.int z)) (hz : ¬ z = 0) (l2 : cs.length ≤ 4000) (hfr : 2 ≤ R.frames) (hlo : W + 25 ≤ R.locals) :
    Back l R p e below s args (⟨"java/lang/String", "length", "()I"⟩ : MethodName) len W (fun P a => a = #[.ref x] ∧ P.U.heap = h ∧ P.cells + 0 ≤ R.cells ∧ P.slots + 0 ≤ R.slots)
      (fun P _ v B => ∃ L, (v = some (.int (Int32.ofNat cs.length)) ∧ L = [] ∧ B.U.heap = h) ∧ B.locs = P.locs ++ L ∧ B.cells = P.cells + 0 ∧ B.slots = P.slots + 0) := by
  obtain ⟨A, K1, K2, K3, K4, K5, K6⟩ := K
  have hcod := hc.cod (by omega) K3 K5
  intro m meth c P g ig mk a X hg hsize hdg hW hn hp'
  obtain ⟨rfl, rfl, r1, r2⟩ := hp'
  have al : Z.vm.Alike P.U.vm := hZ.alike.trans X.warmed.alike
  obtain ⟨D, fV, fC, hB, F1, F2, g1, g2, -, -⟩ := strObj wi al E V C
  have hx : Txt x t A cd cs.length (fun j => cs.getD j 0) P.U := ⟨⟨_, hB.2.2.1, D, hB.1, rfl, by cases q : D.vm <;> first | rfl | exact absurd q (hB.2.1.2 _)⟩, Has.of hB F1 g1, Has.of hB F2 g2, ⟨K1.1, State.isArrayOf_alike al K1.2.1, K1.2.2, by rcases hcod with ⟨-, q, -⟩ | ⟨-, q, -⟩ <;> omega⟩, hcod, fun j hj => by
    have e : cs.getD j 0 = cs[j] := by simp [List.getD_eq_getElem?_getD, hj]
    show ¬ cs.getD j 0 < 0 ∧ ¬ 65535 < cs.getD j 0
    rw [e]; exact hb _ (List.getElem_mem _)⟩
  obtain ⟨v, B, X', ⟨⟨hv, hh⟩, hl, hk, hs⟩, st⟩ := Len.pays x t A cd cs.length (fun j => cs.getD j 0) z (tabLen_of (movedLen hZ hw)) hfr hlo m meth c P g ig mk _ X hg hsize hdg hW hn ⟨r1, r2, rfl, hx, sta_is al S, hz⟩
  exact ⟨v, B, X', ⟨[], ⟨hv, rfl, hh⟩, hl, hk, hs⟩, st⟩
end StrChars.Road
namespace StrChars.Road
open Jvm Sem ClassFile Op Lib Jvm.Stand Jvm.Free Jvm.Free.XT
open Jvm.Lib.Cold (StaticIs)
/-- the road's facts of a String, as the laws ask it -/
theorem txt_of {Z U : State} {a0 : Array Value} {kI : Nat} (wi : (Jvm.Cond.instantiable ST kI).before a0 Z = true) (al : Z.vm.Alike U.vm) {x t : Addr} {kb : ClassId} {cs : List Int32} {cd N2 : Int32} {vs : List Value} (E : RoadKit.Exa Z U.heap x ST) (V : RoadKit.Fld Z U.heap x ST "value" "[B" (.ref t)) (C : RoadKit.Fld Z U.heap x ST "coder" "B" (.int cd)) (K : RoadKit.Arv Z U.heap t kb .byte N2 vs (.int 0)) (hc : CodA cs cd N2 vs) (hb : ∀ c ∈ cs, ¬ c < 0 ∧ ¬ (65535 : Int32) < c) (l2 : cs.length ≤ 4000) :
    ∃ A, Txt x t A cd cs.length (fun j => cs.getD j 0) U := by
  obtain ⟨A, K1, K2, K3, K4, K5, K6⟩ := K
  have hcod := hc.cod (by omega) K3 K5
  obtain ⟨D, fV, fC, hB, F1, F2, g1, g2, -, -⟩ := strObj wi al E V C
  exact ⟨A, ⟨_, hB.2.2.1, D, hB.1, rfl, by cases q : D.vm <;> first | rfl | exact absurd q (hB.2.1.2 _)⟩, Has.of hB F1 g1, Has.of hB F2 g2, ⟨K1.1, State.isArrayOf_alike al K1.2.1, K1.2.2, by rcases hcod with ⟨-, q, -⟩ | ⟨-, q, -⟩ <;> omega⟩, hcod, fun j hj => by
    have e : cs.getD j 0 = cs[j] := by simp [List.getD_eq_getElem?_getD, hj]
    show ¬ cs.getD j 0 < 0 ∧ ¬ 65535 < cs.getD j 0
    rw [e]; exact hb _ (List.getElem_mem _)⟩
end StrChars.Road
namespace StrChars
open Jvm Sem ClassFile Op Lib Jvm.Stand Jvm.Free.XT Jvm.Free.ALB Jvm.Free.JM Jvm.Free
open Jvm.Lib.Cold (StaticIs)
namespace ChN
def yN : MethodName := ⟨"java/lang/String", "charAt", "(I)C"⟩
abbrev yB : ByteArray := jdk_42_method_56_code
theorem d0 : decode yB 0 = .ok (.aload_n 0, 1) := by decide +kernel
theorem d1 : decode yB 1 = .ok (.invokevirtual 492, 3) := by decide +kernel
theorem d4 : decode yB 4 = .ok (.ifCond (.eq) 12, 3) := by decide +kernel
theorem d7 : decode yB 7 = .ok (.aload_n 0, 1) := by decide +kernel
theorem d8 : decode yB 8 = .ok (.getfield 9, 3) := by decide +kernel
theorem d11 : decode yB 11 = .ok (.iload_n 1, 1) := by decide +kernel
theorem d12 : decode yB 12 = .ok (.invokestatic 495, 3) := by decide +kernel
theorem d15 : decode yB 15 = .ok (.ireturn, 1) := by decide +kernel
def site : List Cond := [.fieldLink "java/lang/String" 9 "java/lang/String" "value" "[B", IsL.tab, LChA.tab] ++ virtW "java/lang/String" 492 "java/lang/String" IsL.yN IsL.yN ++ staticW "java/lang/String" 495 LChA.yN
def tab : Cond := tabOf yN yB 2 (some .char) site
def P (x t : Addr) (V : Cell) (n : Nat) (f : Nat → Int32) (z : Int32) (fm : Value) (i : Nat) (args : Array Value) (s : State) : Prop := args = #[.ref x, .int (Int32.ofNat i)] ∧ Txt x t V 0 n f s ∧ i < n ∧ StaticIs s "java/lang/String" "COMPACT_STRINGS" "Z" (.int z) ∧ ¬ z = 0 ∧ StaticIs s "jdk/internal/util/Preconditions" "SIOOBE_FORMATTER" "Ljava/util/function/BiFunction;" fm ∧ fm.isRef = true
def E (f : Nat → Int32) (i : Nat) (r : Option Value) (s u : State) : Prop := XT.PureE (some (.int (f i))) r s u
/-- charAt(i) of a Latin-1 String of n chars, i < n: f i -/
theorem law (l : Launch) (x t : Addr) (V : Cell) (n : Nat) (f : Nat → Int32) (z : Int32) (fm : Value) (i : Nat) : Law l yN 2 1 3 40 yB 2 (some .char) site (P x t V n f z fm i) (E f i) [] 0 0 := by
  refine Law.of_walk (plainFor_of_name (by decide +kernel)) (by decide +kernel) (by decide +kernel) (by decide) (fun _ _ h => by rw [h.1]; rfl) (fun _ U U' hal hh h => ⟨h.1, h.2.1.mv hal hh, h.2.2.1, h.2.2.2.1.there hal hh, h.2.2.2.2.1, h.2.2.2.2.2.1.there hal hh, h.2.2.2.2.2.2⟩) (fun r U U' V V' h1 hal h2 h => XT.PureE.mv r U U' V V' h1 hal h2 h) ?_
  intro p e s m args below meth c s₁ X0 hexec hbytes hml hret hlk hnm hown hh0 W hP
  obtain ⟨rfl, hx, hi, s1, hz, s3, rf⟩ := hP
  have v31 := hx.2.2.2.1.2.2.2
  have hr := hx.2.2.2.2.2 i hi
  have hx0 := hx.mv X0.warmed.alike hh0
  have c1 : Steps p.tables e below (s₁.setTop (entryFrame m #[.ref x, .int (Int32.ofNat i)] 2)) (s₁.setTop (mkF m 1 #[.val (.ref x), .val (.int (Int32.ofNat i))] [.ref x])) := Steps.trans (entry rfl) (by
    show Steps p.tables e below (s₁.setTop (mkF m 0 #[.val (.ref x), .val (.int (Int32.ofNat i))] [])) _
    refine XS.aloadN X0.here hexec rfl (hb hbytes d0) rfl rfl ?_
    exact Steps.refl _)
  obtain ⟨v2, T2, X2, E2, g2⟩ := X0.callV hexec (IsL.law l x 0 z) hown (wks W (virtW "java/lang/String" 492 "java/lang/String" IsL.yN IsL.yN)) rfl (by decide) (wk W IsL.tab) (W := 0) (Nat.le_of_ble_eq_true rfl) (Nat.le_of_ble_eq_true rfl) (Nat.le_refl _) (Nat.le_refl _) (hx0.1.fc X0.warmed.alike) hx0.1.is (g := (mkF m 1 #[.val (.ref x), .val (.int (Int32.ofNat i))] [.ref x])) rfl (by rw [hml]; rfl) c1 (argsL := []) (rest := []) rfl rfl (by show 2 * 0 + 0 ≤ _; decide) (hb hbytes d1) (⟨rfl, hx0.2.2.1, hx.2.2.2.2.1.cd, s1.there X0.warmed.alike hh0, hz⟩)
  obtain ⟨rfl, q2⟩ := E2
  have hh2 := q2.trans hh0
  have hx2 := hx.mv X2.warmed.alike hh2
  obtain ⟨-, k1, k2⟩ | ⟨k0, -⟩ := hx.2.2.2.2.1
  · have c3 : Steps p.tables e below (s₁.setTop (entryFrame m #[.ref x, .int (Int32.ofNat i)] 2)) (T2.setTop (mkF m 8 #[.val (.ref x), .val (.int (Int32.ofNat i))] [.ref x])) := Steps.trans g2 (by
      refine XS.ifNo X2.here hexec rfl (hb hbytes d4) rfl (i0_eq_f (by decide)) ?_
      refine XS.aloadN X2.here hexec rfl (hb hbytes d7) rfl rfl ?_
      exact Steps.refl _)
    obtain ⟨T4, X4, q4, st4⟩ := X2.hget hexec hown (wk W (.fieldLink "java/lang/String" 9 "java/lang/String" "value" "[B")) hx2.2.1 (g := (mkF m 8 #[.val (.ref x), .val (.int (Int32.ofNat i))] [.ref x])) rfl (rest := []) rfl (hb hbytes d8)
    have hh4 := q4.trans hh2
    have c5 : Steps p.tables e below (s₁.setTop (entryFrame m #[.ref x, .int (Int32.ofNat i)] 2)) (T4.setTop (mkF m 12 #[.val (.ref x), .val (.int (Int32.ofNat i))] [.int (Int32.ofNat i), .ref t])) := (c3.trans (st4 _ (Steps.refl _))).trans (by
      refine XS.iloadN X4.here hexec rfl (hb hbytes d11) rfl ?_
      exact Steps.refl _)
    obtain ⟨v6, T6, X6, E6, g6⟩ := X4.callS hexec (LChA.law l t V i (lo8 (f i)) fm) hown (wks W (staticW "java/lang/String" 495 LChA.yN)) (wk W LChA.tab) (W := 0) (Nat.le_of_ble_eq_true rfl) (Nat.le_of_ble_eq_true rfl) (Nat.le_refl _) (Nat.le_refl _) (g := (mkF m 12 #[.val (.ref x), .val (.int (Int32.ofNat i))] [.int (Int32.ofNat i), .ref t])) rfl (by rw [hml]; rfl) c5 (argsL := [.ref t, .int (Int32.ofNat i)]) (rest := []) rfl rfl (by show 2 * 0 + 0 ≤ _; decide) (hb hbytes d12) (⟨rfl, hx.2.2.2.1.mv X4.warmed.alike hh4, (k2 i hi).1, s3.there X4.warmed.alike hh4, rf⟩)
    obtain ⟨rfl, q6⟩ := E6
    rw [chr8_lo8 hr.1 (k2 i hi).2] at g6
    exact ⟨T6, some (.int (f i)), _, _, _, X6, rfl, rfl, rfl, (fun h => by cases h), ⟨rfl, q6.trans hh4⟩, fun fs hl => Steps.trans g6 (X6.ireturnOut hexec hret (narrow_ch hr.1 hr.2) (Or.inr (Or.inr (Or.inr (Or.inl rfl)))) (hb hbytes d15) hl)⟩
  · exact absurd k0 (by decide)
theorem pays {l : Launch} {R : Room} {p : Program} {e : Env} {below : List Frame} {s : State} {sargs : Array Value} {len W : Nat} (x t : Addr) (V : Cell) (n : Nat) (f : Nat → Int32) (z : Int32) (fm : Value) (i : Nat) (htab : tab.before sargs s = true) (hfr : 4 ≤ R.frames) (hlo : W + 53 ≤ R.locals) :
    Back l R p e below s sargs yN len W (fun A₁ a₁ => A₁.cells + 0 ≤ R.cells ∧ A₁.slots + 0 ≤ R.slots ∧ P x t V n f z fm i a₁ A₁.U) (fun A₁ _ v₁ B₁ => E f i v₁ A₁.U B₁.U ∧ B₁.locs = A₁.locs ++ [] ∧ B₁.cells = A₁.cells + 0 ∧ B₁.slots = A₁.slots + 0) :=
  (law l x t V n f z fm i).pays htab hfr (by omega)
end ChN
end StrChars
namespace StrChars.Road
open Jvm Sem ClassFile Op Lib Jvm.Stand Jvm.Free Jvm.Free.XT
open Jvm.Lib.Cold (StaticIs)
/-- the words of String.charAt(int), the Latin-1 road alone -/
abbrev wordsChN : List Jvm.Cond := [.code ChN.yN ChN.yB 2 (some .char), .initialized ST, .fieldLink ST 9 ST "value" "[B", .fieldLink ST 38 ST "COMPACT_STRINGS" "Z", .fieldLink ST 15 ST "coder" "B", .code IsL.yN IsL.yB 1 (some .boolean), .methodLink ST 492 IsL.yN, .declares IsL.yN, .selects ST IsL.yN IsL.yN, .instanceMethod IsL.yN,
  .methodLink ST 495 LChA.yN, .static LChA.yN, .code LChA.yN LChA.yB 2 (some .char), .initialized "java/lang/StringLatin1", .methodLink "java/lang/StringLatin1" 9 JO.Str_checkIndex.yN, .static JO.Str_checkIndex.yN, .code JO.Str_checkIndex.yN JO.Str_checkIndex.yB 2 none,
  .fieldLink ST 1053 "jdk/internal/util/Preconditions" "SIOOBE_FORMATTER" "Ljava/util/function/BiFunction;", .methodLink ST 1059 JC.PreCheck.yN, .static JC.PreCheck.yN, .code JC.PreCheck.yN JC.PreCheck.yB 3 (some .int), .initialized "jdk/internal/util/Preconditions"]
theorem tabChN_of {a : Array Value} {s : State} (h : ∀ w ∈ wordsChN, w.before a s = true) : ChN.tab.before a s = true := by
  have hp : JC.PreCheck.tab.before a s = true := unparts (wk h (.code JC.PreCheck.yN JC.PreCheck.yB 3 (some .int))) (wks h (.initialized JC.PreCheck.yN.cls :: JC.PreCheck.site))
  have qk := consq hp h
  have hk : JO.Str_checkIndex.tab.before a s = true := unparts (wk qk (.code JO.Str_checkIndex.yN JO.Str_checkIndex.yB 2 none)) (wks qk (.initialized JO.Str_checkIndex.yN.cls :: JO.Str_checkIndex.site))
  have ql := consq hk h
  have hl : LChA.tab.before a s = true := unparts (wk ql (.code LChA.yN LChA.yB 2 (some .char))) (wks ql (.initialized LChA.yN.cls :: LChA.site))
  have hi : IsL.tab.before a s = true := unparts (wk h (.code IsL.yN IsL.yB 1 (some .boolean))) (wks h (.initialized IsL.yN.cls :: IsL.site))
  have q := consq hi (consq hl h)
  exact unparts (wk q (.code ChN.yN ChN.yB 2 (some .char))) (wks q (.initialized ChN.yN.cls :: ChN.site))
theorem movedChN {Z s : State} {a0 args : Array Value} (hZ : Z.Warmed39 s.vm) (hw : ∀ d ∈ wordsChN, d.before a0 Z = true) : ∀ d ∈ wordsChN, d.before args s = true := fun d hd => by
  have t : ∀ d ∈ wordsChN, (d.onTables && d.keepsFace) = true := by decide +kernel
  exact RoadKit.mv hZ (hw d hd) (t d hd)
/-- **charAt(i) OF A LATIN-1 STRING**, i < n: the char -/
theorem chN {p : Program} {l : Launch} {e : Env} {R : Room} {s : State} {args : Array Value} {below : List Frame} {len W : Nat} {Z : State} {a0 : Array Value} {h : Heap} (hZ : Z.Warmed39 s.vm) (hw : ∀ d ∈ wordsChN, d.before a0 Z = true) {kI : Nat} (wi : (Jvm.Cond.instantiable ST kI).before a0 Z = true)
    {x t : Addr} {kb : ClassId} {cs : List Int32} {N2 z : Int32} {vs : List Value} {fm : Value} {i : Nat} {j : Int32} (E : RoadKit.Exa Z h x ST) (V : RoadKit.Fld Z h x ST "value" "[B" (.ref t)) (C : RoadKit.Fld Z h x ST "coder" "B" (.int 0)) (K : RoadKit.Arv Z h t kb .byte N2 vs (.int 0)) (hc : CodA cs 0 N2 vs) (hb : ∀ c ∈ cs, ¬ c < 0 ∧ ¬ (65535 : Int32) < c)
    (S : RoadKit.Sta Z h ST "COMPACT_STRINGS" "Z" (.int z)) (hz : ¬ z = 0) (F : RoadKit.Sta Z h "jdk/internal/util/Preconditions" "SIOOBE_FORMATTER" "Ljava/util/function/BiFunction;" fm) (rf : fm.isRef = true) (l2 : cs.length ≤ 4000) (hi : i < cs.length) (hj : j = Int32.ofNat i) (hfr : 4 ≤ R.frames) (hlo : W + 53 ≤ R.locals) :
    Back l R p e below s args (⟨"java/lang/String", "charAt", "(I)C"⟩ : MethodName) len W (fun P a => a = #[.ref x, .int j] ∧ P.U.heap = h ∧ P.cells + 0 ≤ R.cells ∧ P.slots + 0 ≤ R.slots)
      (fun P _ v B => ∃ L, (v = some (.int (cs.getD i 0)) ∧ L = [] ∧ B.U.heap = h) ∧ B.locs = P.locs ++ L ∧ B.cells = P.cells + 0 ∧ B.slots = P.slots + 0) := by
  subst hj
  intro m meth c P g ig mk a X hg hsize hdg hW hn hp'
  obtain ⟨rfl, rfl, r1, r2⟩ := hp'
  have al : Z.vm.Alike P.U.vm := hZ.alike.trans X.warmed.alike
  obtain ⟨A, hx⟩ := txt_of wi al E V C K hc hb l2
  obtain ⟨v, B, X', ⟨⟨hv, hh⟩, hl, hk, hs⟩, st⟩ := ChN.pays x t A cs.length (fun j => cs.getD j 0) z fm i (tabChN_of (movedChN hZ hw)) hfr hlo m meth c P g ig mk _ X hg hsize hdg hW hn ⟨r1, r2, rfl, hx, hi, sta_is al S, hz, sta_is al F, rf⟩
  exact ⟨v, B, X', ⟨[], ⟨hv, rfl, hh⟩, hl, hk, hs⟩, st⟩
/-- what backV says of its String, as the contracts of this text ask it: cs's low bytes, coder 0 -/
theorem codOf {cs : List Int32} {n : Nat} (hn : cs.length = n) (hb : ∀ c ∈ cs, ¬ 255 < c) : CodA cs 0 (Int32.ofNat n) ((cs.map lo8).map Value.int) := Or.inl ⟨rfl, by rw [hn], by simp [List.map_map, Function.comp_def], hb⟩
end StrChars.Road
end Jvm.Pilot.@@N@@

set_option maxRecDepth 65536
set_option maxHeartbeats 40000000
namespace Jvm.Pilot.@@N@@
open Jvm Jvm.ClassFile Sem Op Lib Jvm.Free Jvm.Stand Jvm.LawKit Jvm.RoadKit Bundle Jvm.Pilot.@@N@@.Jvm.D
def own_K (p : Program) (e : Env) (below : List Frame) (A B : State) : Prop := ∀ t, Steps p.tables e below A t → Steps p.tables e below B t
def own_J (p : Program) (e : Env) (below : List Frame) (T : State) (m : MethodId) (pc : Nat) (L : Array Slot) (S : List Value) (B : State) : Prop := ∀ t, Steps p.tables e below (T.setTop (mkF m pc L S)) t → Steps p.tables e below B t
theorem own_ifT_eq {x : Int32} (h : x = 0) : ifCond.holds .eq x = true := by simp [ifCond.holds, h]
theorem own_ifF_eq {x : Int32} (h : ¬ x = 0) : ifCond.holds .eq x = false := by simp [ifCond.holds, h]
theorem own_ifT_ne {x : Int32} (h : ¬ x = 0) : ifCond.holds .ne x = true := by simp [ifCond.holds, h]
theorem own_ifF_ne {x : Int32} (h : x = 0) : ifCond.holds .ne x = false := by simp [ifCond.holds, h]
theorem own_ifT_lt {x : Int32} (h : x < 0) : ifCond.holds .lt x = true := by simp [ifCond.holds, h]
theorem own_ifF_lt {x : Int32} (h : ¬ x < 0) : ifCond.holds .lt x = false := by simp [ifCond.holds, h]
theorem own_ifT_ge {x : Int32} (h : ¬ x < 0) : ifCond.holds .ge x = true := by simp [ifCond.holds, Int32.not_lt.mp h]
theorem own_ifF_ge {x : Int32} (h : x < 0) : ifCond.holds .ge x = false := by simp [ifCond.holds, Int32.not_le.mpr h]
theorem own_ifT_gt {x : Int32} (h : 0 < x) : ifCond.holds .gt x = true := by simp [ifCond.holds, h]
theorem own_ifF_gt {x : Int32} (h : ¬ 0 < x) : ifCond.holds .gt x = false := by simp [ifCond.holds, h]
theorem own_ifT_le {x : Int32} (h : ¬ 0 < x) : ifCond.holds .le x = true := by simp [ifCond.holds, Int32.not_lt.mp h]
theorem own_ifF_le {x : Int32} (h : 0 < x) : ifCond.holds .le x = false := by simp [ifCond.holds, Int32.not_le.mpr h]
theorem own_icT_eq {x y : Int32} (h : x = y) : if_icmp.holds .eq x y = true := by simp [if_icmp.holds, h]
theorem own_icF_eq {x y : Int32} (h : ¬ x = y) : if_icmp.holds .eq x y = false := by simp [if_icmp.holds, h]
theorem own_icT_ne {x y : Int32} (h : ¬ x = y) : if_icmp.holds .ne x y = true := by simp [if_icmp.holds, h]
theorem own_icF_ne {x y : Int32} (h : x = y) : if_icmp.holds .ne x y = false := by simp [if_icmp.holds, h]
theorem own_icT_lt {x y : Int32} (h : x < y) : if_icmp.holds .lt x y = true := by simp [if_icmp.holds, h]
theorem own_icF_lt {x y : Int32} (h : ¬ x < y) : if_icmp.holds .lt x y = false := by simp [if_icmp.holds, h]
theorem own_icT_ge {x y : Int32} (h : ¬ x < y) : if_icmp.holds .ge x y = true := by simp [if_icmp.holds, Int32.not_lt.mp h]
theorem own_icF_ge {x y : Int32} (h : x < y) : if_icmp.holds .ge x y = false := by simp [if_icmp.holds, Int32.not_le.mpr h]
theorem own_icT_gt {x y : Int32} (h : y < x) : if_icmp.holds .gt x y = true := by simp [if_icmp.holds, h]
theorem own_icF_gt {x y : Int32} (h : ¬ y < x) : if_icmp.holds .gt x y = false := by simp [if_icmp.holds, h]
theorem own_icT_le {x y : Int32} (h : ¬ y < x) : if_icmp.holds .le x y = true := by simp [if_icmp.holds, Int32.not_lt.mp h]
theorem own_icF_le {x y : Int32} (h : y < x) : if_icmp.holds .le x y = false := by simp [if_icmp.holds, Int32.not_le.mpr h]
theorem own_from {p : Program} {e : Env} {below : List Frame} {A B t : State} (h : B = A) (q : Steps p.tables e below B t) : Steps p.tables e below A t := h ▸ q
abbrev rO (f c s l : Nat) : Room := { frames := f, cells := c, slots := s, locals := l }
abbrev own_Met (l : Launch) (y : MethodName) (code : ByteArray) (ml : Nat) (ret : Option FieldType) (ws : List Jvm.Cond) (rm : Room) (as' : Array Value) (Z : State) (h0 : Heap) (Q : Option Value → Heap → List Loc → Prop) : Prop :=
  MetFree l y (head1 (Jvm.Cond.code y code ml ret :: ws) rm) (fun ar_ U => ar_ = as' ∧ Z.Warmed39 U.vm ∧ U.heap = h0) (fun _ _ _ _ _ => True) (fun _ U o U' => ∃ v L, o = .returned v ∧ Q v U'.heap L ∧ FrameEnd U o U' L rm.cells rm.slots)
theorem own_InsKeep {Z : State} {h h' : Heap} {b : Addr} {C : String} {bo : Bool} {ws : List Addr} (F : Ins Z h b C bo) (K : Keep h h' ws) (q : b ∉ ws) : Ins Z h' b C bo := by obtain ⟨cell, k, h1, r⟩ := F; exact ⟨cell, k, K.2.1 _ _ h1 q, r⟩
theorem own_l {a b : Nat} (h : Nat.ble a b = true) : a ≤ b := Nat.le_of_ble_eq_true h
theorem own_lt {a b : Nat} (h : Nat.ble (a + 1) b = true) : a < b := Nat.le_of_ble_eq_true h
theorem own_m0 {a : Addr} {P : Prop} : a ∈ [a] ∨ P := Or.inl (List.mem_of_getElem? (i := 0) rfl)
theorem wT {Z : State} {a0 : Array Value} (hw : ∀ d ∈ tables_1, d.before a0 Z = true) (i : Nat) {d : Jvm.Cond} (h : tables_1[i]? = some d) : d.before a0 Z = true := hw d (List.mem_of_getElem? h)
theorem own_mvNest {Z s : State} {a0 args : Array Value} {own host : String} {index : Nat} {y : MethodName} (hZ : Z.Warmed39 s.vm) (w : (Cond.methodLinkNest own index y host).before a0 Z = true) : (Cond.methodLinkNest own index y host).before args s = true := (Cond.methodLinkNest_wide hZ w :)
theorem own_pop2 {tb : Tables} [Ours tb] {e : Env} {below : List Frame} {T target : State} {m : MethodId} {c : Code} {g : JFrame} (h : At T m c below) (hx : tb.exec = Jvm.exec) (hg : g.method = m) {x : UInt64} {rest : List Value} (hd : decode c.code g.pc = .ok (.pop2, 1)) (hs : g.stack = .double x :: rest)
    (hr : Steps tb e below (T.setTop { g with pc := g.pc + 1, stack := rest }) target) : Steps tb e below (T.setTop g) target := by
  subst hg
  jvm_step h [h.top, hx, hd, hs, Value.category]
  exact hr
def own_Str (Z : State) (h : Heap) (a t : Addr) (kb : ClassId) (cs : List Int32) : Prop := Exa Z h a "java/lang/String" ∧ Fld Z h a "java/lang/String" "value" "[B" (.ref t) ∧ Fld Z h a "java/lang/String" "coder" "B" (.int 0) ∧ Arv Z h t kb .byte (Int32.ofNat cs.length) ((cs.map fun c => c.toInt8.toInt32).map Value.int) (.int 0)
theorem own_Str.ext {Z : State} {h h' : Heap} {a t : Addr} {kb : ClassId} {cs : List Int32} (S : own_Str Z h a t kb cs) (E : Ext h h') : own_Str Z h' a t kb cs := ⟨S.1.ext E, S.2.1.ext E, S.2.2.1.ext E, S.2.2.2.ext E⟩
theorem own_Str.keep {Z : State} {h h' : Heap} {ws : List Addr} {a t : Addr} {kb : ClassId} {cs : List Int32} (S : own_Str Z h a t kb cs) (K : Keep h h' ws) (q : a ∉ ws) (r : t ∉ ws) : own_Str Z h' a t kb cs := ⟨S.1.keep K, S.2.1.keep K q, S.2.2.1.keep K q, S.2.2.2.keep K r⟩
/-- a char of one byte -/
def own_b8 (c : Int32) : Prop := ¬ c < 0 ∧ ¬ (255 : Int32) < c
theorem own_b8.up {c : Int32} (h : own_b8 c) : ¬ c < 0 ∧ ¬ (65535 : Int32) < c := ⟨h.1, fun q => h.2 (by
  have q1 := Int32.lt_iff_toInt_lt.mp q
  rw [Int32.lt_iff_toInt_lt]
  rw [show (65535 : Int32).toInt = 65535 from rfl] at q1
  rw [show (255 : Int32).toInt = 255 from rfl]
  omega)⟩
theorem own_cod {cs : List Int32} (h : ∀ c ∈ cs, own_b8 c) : StrChars.Road.CodA cs 0 (Int32.ofNat cs.length) ((cs.map fun c => c.toInt8.toInt32).map Value.int) := StrChars.Road.codOf rfl fun c hc => (h c hc).2
theorem own_caload {p : Program} {l : Launch} {e : Env} {R : Room} {s : State} {m : MethodId} {args : Array Value} {below : List Frame} {meth : Method} {c : Code} {T : State} {locs : List Loc} {cells slots : Nat} {Z : State} {h : Heap} (X : Stand p l e R s m args below meth c T locs cells slots) (hx : p.tables.exec = Jvm.exec) (hZ : Z.Warmed39 s.vm) (eT : T.heap = h) {a : Addr} {k : ClassId} {z : Int32} {vs : List Value} {dv : Value} (F : Arv Z h a k .char z vs dv) {j : Int32} {v : Value} (hj : ¬ j < 0 ∧ j < z) (hv : vs.getD j.toNatClampNeg dv = v)
    {g : JFrame} (hg : g.method = m) {rest : List Value} (hs : g.stack = .int j :: .ref a :: rest) (hd : decode c.code g.pc = .ok (.caload, 1)) : ∀ target, Steps p.tables e below (T.setTop { g with pc := g.pc + 1, stack := v :: rest }) target → Steps p.tables e below (T.setTop g) target := by
  obtain ⟨cl, Ar, -, S, Ng, H, -⟩ := F
  have hin := inb_of S hj
  exact X.caload hx (j := j) (v := v) (by rw [eT]; exact Ar.1) (State.isArrayOf_alike hZ.alike Ar.2.1) Ar.2.2 hin (Has.at H hin hv) (g := g) hg hs hd
theorem own_laload {p : Program} {l : Launch} {e : Env} {R : Room} {s : State} {m : MethodId} {args : Array Value} {below : List Frame} {meth : Method} {c : Code} {T : State} {locs : List Loc} {cells slots : Nat} {Z : State} {h : Heap} (X : Stand p l e R s m args below meth c T locs cells slots) (hx : p.tables.exec = Jvm.exec) (hZ : Z.Warmed39 s.vm) (eT : T.heap = h) {a : Addr} {k : ClassId} {z : Int32} {vs : List Value} {dv : Value} (F : Arv Z h a k .long z vs dv) {j : Int32} {v : Value} (hj : ¬ j < 0 ∧ j < z) (hv : vs.getD j.toNatClampNeg dv = v)
    {g : JFrame} (hg : g.method = m) {rest : List Value} (hs : g.stack = .int j :: .ref a :: rest) (hd : decode c.code g.pc = .ok (.laload, 1)) : ∀ target, Steps p.tables e below (T.setTop { g with pc := g.pc + 1, stack := v :: rest }) target → Steps p.tables e below (T.setTop g) target := by
  obtain ⟨cl, Ar, -, S, Ng, H, -⟩ := F
  have hin := inb_of S hj
  exact X.laload hx (j := j) (v := v) (by rw [eT]; exact Ar.1) (State.isArrayOf_alike hZ.alike Ar.2.1) Ar.2.2 hin (Has.at H hin hv) (g := g) hg hs hd
theorem own_baloadBytes {p : Program} {l : Launch} {e : Env} {R : Room} {s : State} {m : MethodId} {args : Array Value} {below : List Frame} {meth : Method} {c : Code} {T : State} {locs : List Loc} {cells slots : Nat} {Z : State} {h : Heap} (X : Stand p l e R s m args below meth c T locs cells slots) (hx : p.tables.exec = Jvm.exec) (hZ : Z.Warmed39 s.vm) (eT : T.heap = h) {a : Addr} {k : ClassId} {z : Int32} {vs : List Value} {dv : Value} (F : Arv Z h a k .byte z vs dv) {j : Int32} {v : Value} (hj : ¬ j < 0 ∧ j < z) (hv : vs.getD j.toNatClampNeg dv = v)
    {g : JFrame} (hg : g.method = m) {rest : List Value} (hs : g.stack = .int j :: .ref a :: rest) (hd : decode c.code g.pc = .ok (.baload, 1)) : ∀ target, Steps p.tables e below (T.setTop { g with pc := g.pc + 1, stack := v :: rest }) target → Steps p.tables e below (T.setTop g) target := by
  obtain ⟨cl, Ar, -, S, Ng, H, -⟩ := F
  have hin := inb_of S hj
  exact X.baloadBytes hx (j := j) (v := v) (by rw [eT]; exact Ar.1) (State.isArrayOf_alike hZ.alike Ar.2.1) Ar.2.2 hin (Has.at H hin hv) (g := g) hg hs hd

theorem own_sub_words : ∀ d ∈ StrChars.Road.words, d ∈ tables_1 := by decide +kernel
theorem own_sub_wordsLen : ∀ d ∈ StrChars.Road.wordsLen, d ∈ tables_1 := by decide +kernel
theorem own_sub_wordsChN : ∀ d ∈ StrChars.Road.wordsChN, d ∈ tables_1 := by decide +kernel
/-- the value of the first i chars -/
def own_acc (cs : List Int32) : Nat → Int
  | 0 => 0
  | i + 1 => own_acc cs i * 10 + ((cs.getD i 0).toInt - 48)
/-- digits by weight -/
def own_H (f : Nat → Int) : Nat → Int
  | 0 => 0
  | n + 1 => own_H f n + f n * 10 ^ n
theorem own_acc_H (cs : List Int32) (f : Nat → Int) (n : Nat) (h : ∀ i, i < n → (cs.getD i 0).toInt - 48 = f (n - 1 - i)) : ∀ i, i ≤ n → own_acc cs i * 10 ^ (n - i) + own_H f (n - i) = own_H f n := by
  intro i
  induction i with
  | zero => intro _; simp [own_acc]
  | succ i ih =>
    intro hi
    have q := ih (by omega)
    have e : n - i = (n - (i + 1)) + 1 := by omega
    have e2 : n - 1 - i = n - (i + 1) := by omega
    rw [e] at q
    have hf := h i (by omega)
    rw [e2] at hf
    show (own_acc cs i * 10 + ((cs.getD i 0).toInt - 48)) * 10 ^ (n - (i + 1)) + own_H f (n - (i + 1)) = own_H f n
    rw [hf, ← q]
    show _ = own_acc cs i * 10 ^ (n - (i + 1) + 1) + (own_H f (n - (i + 1)) + f (n - (i + 1)) * 10 ^ (n - (i + 1)))
    rw [Int.pow_succ, Int.add_mul, Int.mul_assoc, Int.mul_comm 10 (10 ^ (n - (i + 1)))]
    omega
theorem own_acc_eq (cs : List Int32) (f : Nat → Int) (n : Nat) (h : ∀ i, i < n → (cs.getD i 0).toInt - 48 = f (n - 1 - i)) : own_acc cs n = own_H f n := by
  have q := own_acc_H cs f n h n (Nat.le_refl _)
  rw [Nat.sub_self] at q
  simpa [own_H] using q
theorem own_H_dig (t : Nat) : ∀ n, own_H (fun k => ((t / 10 ^ k % 10 : Nat) : Int)) n = ((t % 10 ^ n : Nat) : Int) := by
  intro n
  induction n with
  | zero => simp [own_H, Nat.mod_one]
  | succ n ih =>
    show own_H _ n + ((t / 10 ^ n % 10 : Nat) : Int) * 10 ^ n = _
    rw [ih, Nat.pow_succ, Nat.mod_mul, Nat.mul_comm]
    push_cast
    rfl
theorem own_H_set (f : Nat → Int) (k0 : Nat) (v : Int) : ∀ n, k0 < n → own_H (fun k => if k = k0 then v else f k) n = own_H f n - f k0 * 10 ^ k0 + v * 10 ^ k0 := by
  have low : ∀ n, n ≤ k0 → own_H (fun k => if k = k0 then v else f k) n = own_H f n := by
    intro n
    induction n with
    | zero => intro _; rfl
    | succ n ih =>
      intro hn
      show own_H _ n + (if n = k0 then v else f n) * 10 ^ n = own_H f n + f n * 10 ^ n
      rw [ih (by omega), if_neg (by omega)]
  intro n
  induction n with
  | zero => intro h; omega
  | succ n ih =>
    intro hn
    show own_H _ n + (if n = k0 then v else f n) * 10 ^ n = own_H f n + f n * 10 ^ n - f k0 * 10 ^ k0 + v * 10 ^ k0
    by_cases e : n = k0
    · rw [if_pos e, low n (by omega), e]; omega
    · rw [if_neg e, ih (by omega)]; omega
theorem own_acc_bound (cs : List Int32) : ∀ i, (∀ j, j < i → 48 ≤ (cs.getD j 0).toInt ∧ (cs.getD j 0).toInt ≤ 57) → 0 ≤ own_acc cs i ∧ own_acc cs i < 10 ^ i := by
  intro i
  induction i with
  | zero => intro _; exact ⟨Int.le_refl _, show (0 : Int) < 1 by decide⟩
  | succ i ih =>
    intro h
    have q := ih fun j hj => h j (by omega)
    have r := h i (by omega)
    show 0 ≤ own_acc cs i * 10 + ((cs.getD i 0).toInt - 48) ∧ own_acc cs i * 10 + ((cs.getD i 0).toInt - 48) < 10 ^ (i + 1)
    rw [Int.pow_succ]
    omega
theorem own_c16 {x : Int32} (h0 : 0 ≤ x.toInt) (h1 : x.toInt < 65536) : x.toUInt32.toUInt16.toUInt32.toInt32 = x := by
  have := c_i2c x
  apply Int32.toInt_inj.mp
  omega
theorem own_nar16 {x : Int32} (h0 : 0 ≤ x.toInt) (h1 : x.toInt < 65536) : nar .char x = x := own_c16 h0 h1
/-- a char of two bytes, low byte first -/
def own_lo (c : Int32) : Int32 := (c >>> ((0 : Int32) &&& 31)).toInt8.toInt32
def own_hi (c : Int32) : Int32 := (c >>> ((8 : Int32) &&& 31)).toInt8.toInt32
def own_join (a b : Int32) : Int32 := nar .char ((((a &&& (255 : Int32)) <<< ((0 : Int32) &&& 31)) ||| ((b &&& (255 : Int32)) <<< ((8 : Int32) &&& 31))).toUInt32.toUInt16.toUInt32.toInt32)
theorem own_join_eq {c : Int32} (h0 : 0 ≤ c.toInt) (h1 : c.toInt < 65536) : own_join (own_lo c).toInt8.toInt32 (own_hi c).toInt8.toInt32 = c := by
  have a1 := c_ishr c (0 : Int32) 0 (by decide)
  have a2 := c_i2b (c >>> ((0 : Int32) &&& 31))
  have a3 := c_i2b (own_lo c)
  have a4 := c_mask ((own_lo c).toInt8.toInt32) (255 : Int32) 8 (by decide) (by decide)
  have a5 := c_ishl ((own_lo c).toInt8.toInt32 &&& (255 : Int32)) (0 : Int32) 0 (by decide)
  have b1 := c_ishr c (8 : Int32) 8 (by decide)
  have b2 := c_i2b (c >>> ((8 : Int32) &&& 31))
  have b3 := c_i2b (own_hi c)
  have b4 := c_mask ((own_hi c).toInt8.toInt32) (255 : Int32) 8 (by decide) (by decide)
  have b5 := c_ishl ((own_hi c).toInt8.toInt32 &&& (255 : Int32)) (8 : Int32) 8 (by decide)
  rw [show (c >>> ((0 : Int32) &&& 31)).toInt8.toInt32 = own_lo c from rfl] at a2
  rw [show (c >>> ((8 : Int32) &&& 31)).toInt8.toInt32 = own_hi c from rfl] at b2
  have r1 := rng32 (((own_lo c).toInt8.toInt32 &&& (255 : Int32)) <<< ((0 : Int32) &&& 31))
  have r2 := rng32 (((own_hi c).toInt8.toInt32 &&& (255 : Int32)) <<< ((8 : Int32) &&& 31))
  have e1 : (((own_lo c).toInt8.toInt32 &&& (255 : Int32)) <<< ((0 : Int32) &&& 31)).toInt = c.toInt % 256 := by
    simp only [Nat.pow_zero, Nat.reducePow, Int.cast_ofNat_Int] at a1 a4 a5 ⊢
    omega
  have e2 : (((own_hi c).toInt8.toInt32 &&& (255 : Int32)) <<< ((8 : Int32) &&& 31)).toInt = c.toInt / 256 * 256 := by
    simp only [Nat.reducePow, Int.cast_ofNat_Int] at b1 b4 b5 ⊢
    omega
  have o := c_or' (((own_lo c).toInt8.toInt32 &&& (255 : Int32)) <<< ((0 : Int32) &&& 31)) (((own_hi c).toInt8.toInt32 &&& (255 : Int32)) <<< ((8 : Int32) &&& 31)) 8 (by decide) 256 (by decide) (by rw [e2]; omega) (by rw [e1]; omega) (by rw [e1]; omega)
  have r3 := rng32 ((((own_lo c).toInt8.toInt32 &&& (255 : Int32)) <<< ((0 : Int32) &&& 31)) ||| (((own_hi c).toInt8.toInt32 &&& (255 : Int32)) <<< ((8 : Int32) &&& 31)))
  have e3 : ((((own_lo c).toInt8.toInt32 &&& (255 : Int32)) <<< ((0 : Int32) &&& 31)) ||| (((own_hi c).toInt8.toInt32 &&& (255 : Int32)) <<< ((8 : Int32) &&& 31))) = c := by
    apply Int32.toInt_inj.mp; rw [e1, e2] at o; omega
  unfold own_join
  rw [e3, own_c16 h0 h1, own_nar16 h0 h1]
theorem own_nat32 {n : Nat} (h : n < 2147483648) : (Int32.ofNat n).toInt = n := Int32.toInt_ofNat_of_lt (by omega)
theorem own_natC {n : Nat} (h : n < 2147483648) : (Int32.ofNat n).toNatClampNeg = n := by
  have := own_nat32 h
  simp only [Int32.toNatClampNeg]; omega
theorem own_shl1 {n : Nat} (h : n < 1000) : Int32.ofNat n <<< ((1 : Int32) &&& 31) = Int32.ofNat (2 * n) := by
  have a := c_ishl (Int32.ofNat n) (1 : Int32) 1 (by decide)
  have b := own_nat32 (n := n) (by omega)
  have d := own_nat32 (n := 2 * n) (by omega)
  have r := rng32 (Int32.ofNat n <<< ((1 : Int32) &&& 31))
  apply Int32.toInt_inj.mp
  simp only [Nat.reducePow, Int.cast_ofNat_Int] at a
  omega
theorem own_shr1 {n : Nat} (h : n < 1000) : Int32.ofNat (2 * n) >>> ((1 : Int32) &&& 31) = Int32.ofNat n := by
  have a := c_ishr (Int32.ofNat (2 * n)) (1 : Int32) 1 (by decide)
  have b := own_nat32 (n := n) (by omega)
  have d := own_nat32 (n := 2 * n) (by omega)
  apply Int32.toInt_inj.mp
  simp only [Nat.reducePow, Int.cast_ofNat_Int] at a
  omega
theorem own_step32 {n : Nat} (h : n + 1 < 2147483648) : Int32.ofNat n + (1 : Int32) = Int32.ofNat (n + 1) := by
  have q := c_iadd (Int32.ofNat n) (1 : Int32)
  have r := rng32 (Int32.ofNat n + (1 : Int32))
  have b := own_nat32 (n := n) (by omega)
  have d := own_nat32 (n := n + 1) (by omega)
  rw [show (1 : Int32).toInt = 1 from rfl] at q
  apply Int32.toInt_inj.mp
  omega
theorem own_nneg {n : Nat} (h : n < 2147483648) : ¬ Int32.ofNat n < 0 := by
  rw [Int32.lt_iff_toInt_lt, own_nat32 h, show (0 : Int32).toInt = 0 from rfl]; omega
theorem own_lt32 {a b : Nat} (ha : a < 2147483648) (hb : b < 2147483648) : Int32.ofNat a < Int32.ofNat b ↔ a < b := by
  rw [Int32.lt_iff_toInt_lt, own_nat32 ha, own_nat32 hb]; omega
theorem own_ltlit {n : Nat} (h : n ≤ 11) : Int32.ofNat n < (1073741823 : Int32) := by
  rw [Int32.lt_iff_toInt_lt, own_nat32 (by omega), show (1073741823 : Int32).toInt = 1073741823 from rfl]; omega
/-- the bytes ds spell the chars cs, up to i -/
def own_enc (cs : List Int32) (ds : List Value) (i : Nat) : Prop := ds.length = 2 * cs.length ∧ ∀ j, j < i → ds.getD (2 * j) (.int 0) = .int ((own_lo (cs.getD j 0)).toInt8.toInt32) ∧ ds.getD (2 * j + 1) (.int 0) = .int ((own_hi (cs.getD j 0)).toInt8.toInt32)
theorem own_enc0 (cs : List Int32) (v : Value) : own_enc cs (List.replicate (2 * cs.length) v) 0 := ⟨by simp, fun j hj => absurd hj (by omega)⟩
theorem own_set_hit {ds : List Value} {i : Nat} {v d : Value} (h : i < ds.length) : (ds.set i v).getD i d = v := by
  rw [List.getD_eq_getElem?_getD, List.getElem?_set_self h]; rfl
theorem own_set_miss {ds : List Value} {i j : Nat} {v d : Value} (h : i ≠ j) : (ds.set i v).getD j d = ds.getD j d := by
  rw [List.getD_eq_getElem?_getD, List.getElem?_set_ne h, ← List.getD_eq_getElem?_getD]
theorem own_enc_step {cs : List Int32} {ds : List Value} {i : Nat} (h : own_enc cs ds i) (hi : i < cs.length) : own_enc cs (List.set (List.set ds (2 * i) (.int ((own_lo (cs.getD i 0)).toInt8.toInt32))) (2 * i + 1) (.int ((own_hi (cs.getD i 0)).toInt8.toInt32))) (i + 1) := by
  refine ⟨by rw [List.length_set, List.length_set]; exact h.1, fun j hj => ?_⟩
  by_cases e : j = i
  · subst e
    refine ⟨?_, own_set_hit (by rw [List.length_set, h.1]; omega)⟩
    rw [own_set_miss (by omega)]; exact own_set_hit (by rw [h.1]; omega)
  · rw [own_set_miss (by omega), own_set_miss (by omega), own_set_miss (by omega), own_set_miss (by omega)]
    exact h.2 j (by omega)
theorem own_mapD (cs : List Int32) (j : Nat) : (cs.map Value.int).getD j (.int 0) = .int (cs.getD j 0) := by
  rw [List.getD_eq_getElem?_getD, List.getElem?_map, List.getD_eq_getElem?_getD]
  cases cs[j]? <;> rfl
theorem own_atC (cs : List Int32) {j : Nat} (h : j < 2147483648) : (cs.map Value.int).getD (Int32.ofNat j).toNatClampNeg (.int 0) = .int (cs.getD j 0) := by rw [own_natC h]; exact own_mapD cs j
theorem own_ne32 {a b : Nat} (ha : a < 2147483648) (hb : b < 2147483648) (h : a ≠ b) : ¬ Int32.ofNat a = Int32.ofNat b := fun q => h (by
  have := congrArg Int32.toInt q
  rw [own_nat32 ha, own_nat32 hb] at this; omega)
/-- the coder of an array twice as long -/
theorem own_cod1 {n : Nat} (h0 : 0 < n) (h : n ≤ 11) : nar .byte ((((Int32.ofNat n - Int32.ofNat (2 * n))).toUInt32 >>> ((31 : Int32) &&& 31).toUInt32).toInt32.toInt8.toInt32) = 1 := by
  have : n = 1 ∨ n = 2 ∨ n = 3 ∨ n = 4 ∨ n = 5 ∨ n = 6 ∨ n = 7 ∨ n = 8 ∨ n = 9 ∨ n = 10 ∨ n = 11 := by omega
  rcases this with rfl | rfl | rfl | rfl | rfl | rfl | rfl | rfl | rfl | rfl | rfl <;> decide
/-- the first char above 255 -/
theorem own_first : ∀ (cs : List Int32), ¬ (∀ c ∈ cs, ¬ (255 : Int32) < c) → ∃ k, k < cs.length ∧ (255 : Int32) < cs.getD k 0 ∧ ∀ j, j < k → ¬ (255 : Int32) < cs.getD j 0
  | [], h => absurd (fun c hc => nomatch hc) h
  | c :: r, h => by
    by_cases q : (255 : Int32) < c
    · exact ⟨0, by simp, q, fun j hj => absurd hj (by omega)⟩
    · obtain ⟨k, k1, k2, k3⟩ := own_first r (fun z => h (fun d hd => by
        rcases List.mem_cons.mp hd with rfl | hd
        · exact q
        · exact z d hd))
      refine ⟨k + 1, by simp; omega, by simpa using k2, fun j hj => ?_⟩
      cases j with
      | zero => simpa using q
      | succ j => simpa using k3 j (by omega)
def own_chs (cs : List Int32) : Prop := ∀ c ∈ cs, 0 ≤ c.toInt ∧ c.toInt < 65536
theorem own_chD {cs : List Int32} (h : own_chs cs) {j : Nat} (hj : j < cs.length) : 0 ≤ (cs.getD j 0).toInt ∧ (cs.getD j 0).toInt < 65536 := by
  rw [List.getD_eq_getElem?_getD, List.getElem?_eq_getElem hj]
  exact h _ (List.getElem_mem hj)
theorem own_pos32 {n : Nat} (h0 : 0 < n) (h : n < 2147483648) : ¬ Int32.ofNat n = 0 := fun q => by
  have := congrArg Int32.toInt q
  rw [own_nat32 h, show (0 : Int32).toInt = 0 from rfl] at this; omega
theorem own_b8s {cs : List Int32} (h : own_chs cs) (q : ∀ c ∈ cs, ¬ (255 : Int32) < c) : ∀ c ∈ cs, own_b8 c := fun c hc => ⟨by
  have := (h c hc).1
  rw [Int32.lt_iff_toInt_lt, show (0 : Int32).toInt = 0 from rfl]; omega, q c hc⟩
/-- a String of these chars: Latin-1, or two bytes a char -/
def own_U16 (Z : State) (h : Heap) (a t : Addr) (kt : ClassId) (cs : List Int32) (ds : List Value) : Prop := Exa Z h a "java/lang/String" ∧ Fld Z h a "java/lang/String" "value" "[B" (.ref t) ∧ Fld Z h a "java/lang/String" "coder" "B" (.int 1) ∧ Arv Z h t kt .byte (Int32.ofNat (2 * cs.length)) ds (.int 0) ∧ own_enc cs ds cs.length
def own_S (Z : State) (h : Heap) (a : Addr) (cs : List Int32) : Prop := (∃ t kb, own_Str Z h a t kb cs ∧ ∀ c ∈ cs, own_b8 c) ∨ (∃ t kt ds, own_U16 Z h a t kt cs ds)
def own_dig (c : Int32) : Prop := 48 ≤ c.toInt ∧ c.toInt ≤ 57
instance own_digD (c : Int32) : Decidable (own_dig c) := inferInstanceAs (Decidable (_ ∧ _))
/-- what queueIdOf answers -/
def own_qid (cs : List Int32) : Int32 :=
  if cs.length = 0 ∨ 10 < cs.length ∨ (cs.getD 0 0 = 48 ∧ 1 < cs.length) then -1
  else if (∀ j, j < cs.length → own_dig (cs.getD j 0)) then (if own_acc cs cs.length ≤ 2147483647 then Int32.ofInt (own_acc cs cs.length) else -1) else -1
theorem own_firstN (cs : List Int32) : ∀ n, (∀ j, j < n → own_dig (cs.getD j 0)) ∨ ∃ k, k < n ∧ ¬ own_dig (cs.getD k 0) ∧ ∀ j, j < k → own_dig (cs.getD j 0) := by
  intro n
  induction n with
  | zero => exact Or.inl fun j hj => absurd hj (by omega)
  | succ n ih =>
    rcases ih with h | ⟨k, k1, k2, k3⟩
    · by_cases q : own_dig (cs.getD n 0)
      · exact Or.inl fun j hj => by
          by_cases e : j = n
          · subst e; exact q
          · exact h j (by omega)
      · exact Or.inr ⟨n, by omega, q, h⟩
    · exact Or.inr ⟨k, by omega, k2, k3⟩
theorem own_qid_bad {cs : List Int32} {k : Nat} (hk : k < cs.length) (h : ¬ own_dig (cs.getD k 0)) : own_qid cs = -1 := by
  unfold own_qid
  split
  · rfl
  · rw [if_neg fun q => h (q k hk)]
theorem own_qid_len {cs : List Int32} (h : cs.length = 0 ∨ 10 < cs.length) : own_qid cs = -1 := by
  unfold own_qid
  rw [if_pos (by omega)]
theorem own_qid_zero {cs : List Int32} (h : cs.getD 0 0 = 48) (h1 : 1 < cs.length) : own_qid cs = -1 := by
  unfold own_qid
  rw [if_pos (Or.inr (Or.inr ⟨h, h1⟩))]
theorem own_qid_val {cs : List Int32} (h0 : 0 < cs.length) (h1 : cs.length ≤ 10) (h2 : ¬ (cs.getD 0 0 = 48 ∧ 1 < cs.length)) (h3 : ∀ j, j < cs.length → own_dig (cs.getD j 0)) : own_qid cs = if own_acc cs cs.length ≤ 2147483647 then Int32.ofInt (own_acc cs cs.length) else -1 := by
  unfold own_qid
  rw [if_neg (fun q => by
    rcases q with q | q | q
    · omega
    · omega
    · exact h2 q), if_pos h3]
/-- one turn's reckoning -/
theorem own_turnQ {cs : List Int32} {i : Nat} {q : Int64} (hq : q.toInt = own_acc cs i) (hi : i < 10) (h : ∀ j, j < i → own_dig (cs.getD j 0)) (hd : own_dig (cs.getD i 0)) : (((q * (10 : Int64)) + (cs.getD i 0).toInt64) - (48 : Int64)).toInt = own_acc cs (i + 1) := by
  have b := own_acc_bound cs i h
  have p : (10 : Int) ^ i ≤ 10 ^ 9 := by
    have : i = 0 ∨ i = 1 ∨ i = 2 ∨ i = 3 ∨ i = 4 ∨ i = 5 ∨ i = 6 ∨ i = 7 ∨ i = 8 ∨ i = 9 := by omega
    rcases this with rfl | rfl | rfl | rfl | rfl | rfl | rfl | rfl | rfl | rfl <;> decide
  have m := c_lmul q (10 : Int64)
  have a := c_ladd (q * (10 : Int64)) (cs.getD i 0).toInt64
  have s := c_lsub ((q * (10 : Int64)) + (cs.getD i 0).toInt64) (48 : Int64)
  have l := c_i2l (cs.getD i 0)
  have r1 := rng64 (q * (10 : Int64))
  have r2 := rng64 ((q * (10 : Int64)) + (cs.getD i 0).toInt64)
  have r3 := rng64 (((q * (10 : Int64)) + (cs.getD i 0).toInt64) - (48 : Int64))
  rw [show (10 : Int64).toInt = 10 from rfl] at m
  rw [show (48 : Int64).toInt = 48 from rfl] at s
  unfold own_dig at hd
  show _ = own_acc cs i * 10 + ((cs.getD i 0).toInt - 48)
  have p9 : (10 : Int) ^ 9 = 1000000000 := by decide
  rw [p9] at p
  omega
theorem own_chs_drop {cs : List Int32} (k : Nat) (h : own_chs cs) : own_chs (cs.drop k) := fun c hc => h c (List.mem_of_mem_drop hc)
theorem own_eq11 {n : Int32} (h0 : 0 ≤ n.toInt) (h1 : n.toInt ≤ 11) (q0 : ¬ n = 0) (q1 : ¬ n = (1 : Int32)) (q2 : ¬ n = (2 : Int32)) (q3 : ¬ n = (3 : Int32)) (q4 : ¬ n = (4 : Int32)) (q5 : ¬ n = (5 : Int32)) (q6 : ¬ n = (6 : Int32)) (q7 : ¬ n = (7 : Int32)) (q8 : ¬ n = (8 : Int32)) (q9 : ¬ n = (9 : Int32)) (q10 : ¬ n = (10 : Int32)) : n = (11 : Int32) := by
  rw [← Int32.toInt_inj] at *
  rw [show (0 : Int32).toInt = 0 from rfl] at q0
  rw [show (1 : Int32).toInt = 1 from rfl] at q1
  rw [show (2 : Int32).toInt = 2 from rfl] at q2
  rw [show (3 : Int32).toInt = 3 from rfl] at q3
  rw [show (4 : Int32).toInt = 4 from rfl] at q4
  rw [show (5 : Int32).toInt = 5 from rfl] at q5
  rw [show (6 : Int32).toInt = 6 from rfl] at q6
  rw [show (7 : Int32).toInt = 7 from rfl] at q7
  rw [show (8 : Int32).toInt = 8 from rfl] at q8
  rw [show (9 : Int32).toInt = 9 from rfl] at q9
  rw [show (10 : Int32).toInt = 10 from rfl] at q10
  rw [show (11 : Int32).toInt = 11 from rfl]
  omega
theorem own_len0 {n : Nat} (h : n ≤ 11) (q : Int32.ofNat n = 0) : n = 0 := by
  have := congrArg Int32.toInt q
  rw [own_nat32 (by omega), show (0 : Int32).toInt = 0 from rfl] at this; omega
theorem own_gtlit {n : Nat} (h : n ≤ 11) {k : Int32} {m : Nat} (hm : k.toInt = m) : k < Int32.ofNat n ↔ m < n := by
  rw [Int32.lt_iff_toInt_lt, own_nat32 (by omega), hm]; omega
theorem own_gt57 {c : Int32} (h : ¬ own_dig c) (q : ¬ c < (48 : Int32)) : (57 : Int32) < c := by
  rw [Int32.lt_iff_toInt_lt, show (48 : Int32).toInt = 48 from rfl] at q
  rw [Int32.lt_iff_toInt_lt, show (57 : Int32).toInt = 57 from rfl]
  unfold own_dig at h; omega
theorem own_ge48 {c : Int32} (h : own_dig c) : ¬ c < (48 : Int32) := by
  rw [Int32.lt_iff_toInt_lt, show (48 : Int32).toInt = 48 from rfl]
  unfold own_dig at h; omega
theorem own_le57 {c : Int32} (h : own_dig c) : ¬ (57 : Int32) < c := by
  rw [Int32.lt_iff_toInt_lt, show (57 : Int32).toInt = 57 from rfl]
  unfold own_dig at h; omega
theorem own_cmpM {q : Int64} : 0 < lcmpW q (2147483647 : Int64) ↔ 2147483647 < q.toInt := by
  have h := c_lcmp q (2147483647 : Int64)
  rw [show (2147483647 : Int64).toInt = 2147483647 from rfl] at h
  rw [Int32.lt_iff_toInt_lt, show (0 : Int32).toInt = 0 from rfl]
  omega
theorem own_l2i {q : Int64} (h0 : 0 ≤ q.toInt) (h : ¬ 2147483647 < q.toInt) : q.toInt32 = Int32.ofInt q.toInt := by
  have a := c_l2i q
  have r := rng32 q.toInt32
  apply Int32.toInt_inj.mp
  rw [Int32.toInt_ofInt_of_le (by omega) (by omega)]
  omega
theorem own_fin {cs : List Int32} {q : Int64} (h0 : 0 < cs.length) (h1 : cs.length ≤ 10) (h2 : ¬ (cs.getD 0 0 = 48 ∧ 1 < cs.length)) (h3 : ∀ j, j < cs.length → own_dig (cs.getD j 0)) (hq : q.toInt = own_acc cs cs.length) : own_qid cs = if 0 < lcmpW q (2147483647 : Int64) then -1 else q.toInt32 := by
  have b := (own_acc_bound cs cs.length h3).1
  rw [own_qid_val h0 h1 h2 h3, ← hq]
  rw [← hq] at b
  by_cases e : 2147483647 < q.toInt
  · rw [if_neg (by omega), if_pos (own_cmpM.mpr e)]
  · rw [if_pos (by omega), if_neg (fun z => e (own_cmpM.mp z)), own_l2i b e]
/-- the digit contract's number -/
theorem own_digit {t pw : Int64} (ht : 0 ≤ t.toInt) (hp : 0 < pw.toInt) (hp1 : pw ≠ -1) :
    (nar .char (((48 : Int32) + ((t / pw) - ((t / pw) / (10 : Int64)) * (10 : Int64)).toInt32).toUInt32.toUInt16.toUInt32.toInt32)).toInt = 48 + t.toInt / pw.toInt % 10 := by
  have a := (c_ldiv t pw pw.toInt rfl hp1).1 ht
  have q0 : 0 ≤ (t / pw).toInt := by rw [a]; exact Int.ediv_nonneg ht (Int.le_of_lt hp)
  have b := (c_lrem (t / pw) (10 : Int64) 10 rfl).1 q0
  have e := c_l2i ((t / pw) - ((t / pw) / (10 : Int64)) * (10 : Int64))
  have r := rng32 ((t / pw) - ((t / pw) / (10 : Int64)) * (10 : Int64)).toInt32
  have f := c_iadd (48 : Int32) ((t / pw) - ((t / pw) / (10 : Int64)) * (10 : Int64)).toInt32
  have r2 := rng32 ((48 : Int32) + ((t / pw) - ((t / pw) / (10 : Int64)) * (10 : Int64)).toInt32)
  rw [show (48 : Int32).toInt = 48 from rfl] at f
  rw [a] at b
  have g : ((48 : Int32) + ((t / pw) - ((t / pw) / (10 : Int64)) * (10 : Int64)).toInt32).toInt = 48 + t.toInt / pw.toInt % 10 := by omega
  rw [own_c16 (by omega) (by omega), own_nar16 (by omega) (by omega), g]
def own_pw (n : Int32) : Int64 := ([1, 10, 100, 1000, 10000, 100000, 1000000, 10000000, 100000000, 1000000000, 10000000000, 100000000000] : List Int64).getD n.toInt.toNat 0
theorem own_pw_val {n : Int32} (h0 : 0 ≤ n.toInt) (h1 : n.toInt ≤ 11) : (own_pw n).toInt = 10 ^ n.toInt.toNat := by
  have : n.toInt.toNat = 0 ∨ n.toInt.toNat = 1 ∨ n.toInt.toNat = 2 ∨ n.toInt.toNat = 3 ∨ n.toInt.toNat = 4 ∨ n.toInt.toNat = 5 ∨ n.toInt.toNat = 6 ∨ n.toInt.toNat = 7 ∨ n.toInt.toNat = 8 ∨ n.toInt.toNat = 9 ∨ n.toInt.toNat = 10 ∨ n.toInt.toNat = 11 := by omega
  unfold own_pw
  rcases this with e | e | e | e | e | e | e | e | e | e | e | e <;> rw [e] <;> rfl
theorem own_pw_at {n : Int32} (h0 : 0 ≤ n.toInt) (h1 : n.toInt ≤ 11) : ([.long 1, .long 10, .long 100, .long 1000, .long 10000, .long 100000, .long 1000000, .long 10000000, .long 100000000, .long 1000000000, .long 10000000000, .long 100000000000] : List Value).getD n.toNatClampNeg (.long 0) = .long (own_pw n) := by
  have : n.toInt.toNat = 0 ∨ n.toInt.toNat = 1 ∨ n.toInt.toNat = 2 ∨ n.toInt.toNat = 3 ∨ n.toInt.toNat = 4 ∨ n.toInt.toNat = 5 ∨ n.toInt.toNat = 6 ∨ n.toInt.toNat = 7 ∨ n.toInt.toNat = 8 ∨ n.toInt.toNat = 9 ∨ n.toInt.toNat = 10 ∨ n.toInt.toNat = 11 := by omega
  unfold own_pw
  rw [show n.toNatClampNeg = n.toInt.toNat from rfl]
  rcases this with e | e | e | e | e | e | e | e | e | e | e | e <;> rw [e] <;> rfl
theorem own_pw_ne {n : Int32} (h0 : 0 ≤ n.toInt) (h1 : n.toInt ≤ 11) : ¬ own_pw n = 0 ∧ own_pw n ≠ -1 := by
  have h := own_pw_val h0 h1
  have p : (0 : Int) < 10 ^ n.toInt.toNat := Int.pow_pos (by decide)
  exact ⟨fun q => by rw [q] at h; rw [← h] at p; exact absurd p (by decide), fun q => by rw [q] at h; rw [← h] at p; exact absurd p (by decide)⟩
theorem own_setA {Z : State} {h : Heap} {b : Addr} {k : ClassId} {ty : FieldType} {n : Int32} {ds bs : List Int32} {j : Nat} {x : Int32} {d : Value} (F : Arv Z h b k ty n (List.set (ds.map Value.int) j (.int x)) d) (hl : ds.set j x = bs) : Arv Z h b k ty n (bs.map Value.int) d := by
  rw [← hl, List.map_set]; exact F
theorem own_eleven (l : List Int32) (h : l.length = 11) : ∃ b0 b1 b2 b3 b4 b5 b6 b7 b8 b9 b10, l = [b0, b1, b2, b3, b4, b5, b6, b7, b8, b9, b10] := by
  match l, h with
  | [b0, b1, b2, b3, b4, b5, b6, b7, b8, b9, b10], _ => exact ⟨b0, b1, b2, b3, b4, b5, b6, b7, b8, b9, b10, rfl⟩
/-- what the eleven chars are: t's digits, one of them replaced or none -/
def own_bs (t : Int64) (bs : List Int32) (rep : Option (Nat × Int32)) : Prop := bs.length = 11 ∧ ∀ i, i < 11 → (bs.getD i 0).toInt = (match rep with | some (j, c) => if i = j then c.toInt else 48 + t.toInt / 10 ^ (10 - i) % 10 | none => 48 + t.toInt / 10 ^ (10 - i) % 10)
theorem own_bs_chs {t : Int64} (ht : 0 ≤ t.toInt) {bs : List Int32} {rep : Option (Nat × Int32)} (h : own_bs t bs rep) (hc : ∀ j c, rep = some (j, c) → 0 ≤ c.toInt ∧ c.toInt < 65536) : own_chs bs := fun c hm => by
  obtain ⟨i, hi, rfl⟩ := List.getElem_of_mem hm
  have q := h.2 i (by rw [← h.1]; exact hi)
  have d : 0 ≤ t.toInt / 10 ^ (10 - i) % 10 ∧ t.toInt / 10 ^ (10 - i) % 10 < 10 := ⟨Int.emod_nonneg _ (by decide), Int.emod_lt_of_pos _ (by decide)⟩
  rw [List.getD_eq_getElem?_getD, List.getElem?_eq_getElem hi] at q
  simp only [Option.getD_some] at q
  rw [q]
  cases rep with
  | none => simp only; omega
  | some jc =>
    obtain ⟨j, c⟩ := jc
    have := hc j c rfl
    simp only
    split <;> omega
/-- the number that queueIdOf reckons, where all are digits -/
theorem own_val {t : Int64} (ht : 0 ≤ t.toInt) {bs : List Int32} {rep : Option (Nat × Int32)} (h : own_bs t bs rep) {n : Nat} (hn : n ≤ 11) : own_acc (bs.drop (11 - n)) n = (match rep with | none => t.toInt % 10 ^ n | some (j, c) => if 11 - n ≤ j ∧ j < 11 then t.toInt % 10 ^ n - t.toInt / 10 ^ (10 - j) % 10 * 10 ^ (10 - j) + (c.toInt - 48) * 10 ^ (10 - j) else t.toInt % 10 ^ n) := by
  obtain ⟨T, hT⟩ : ∃ T : Nat, t.toInt = T := ⟨t.toInt.toNat, by omega⟩
  have dig : ∀ k : Nat, t.toInt / 10 ^ k % 10 = ((T / 10 ^ k % 10 : Nat) : Int) := fun k => by rw [hT]; norm_cast
  have getd : ∀ i, i < n → (bs.drop (11 - n)).getD i 0 = bs.getD (11 - n + i) 0 := fun i _ => by
    rw [List.getD_eq_getElem?_getD, List.getElem?_drop, ← List.getD_eq_getElem?_getD]
  have tm : t.toInt % 10 ^ n = ((T % 10 ^ n : Nat) : Int) := by rw [hT]; norm_cast
  cases rep with
  | none =>
    simp only
    rw [tm, ← own_H_dig]
    refine own_acc_eq _ _ n fun i hi => ?_
    rw [getd i hi, h.2 _ (by omega)]
    simp only
    rw [dig, show 10 - (11 - n + i) = n - 1 - i by omega]
    omega
  | some jc =>
    obtain ⟨j, c⟩ := jc
    simp only
    by_cases hj : 11 - n ≤ j ∧ j < 11
    · rw [if_pos hj, tm, ← own_H_dig, dig, ← own_H_set (fun k => ((T / 10 ^ k % 10 : Nat) : Int)) (10 - j) (c.toInt - 48) n (by omega)]
      refine own_acc_eq _ _ n fun i hi => ?_
      rw [getd i hi, h.2 _ (by omega)]
      simp only
      by_cases e : 11 - n + i = j
      · rw [if_pos e, if_pos (by omega)]
      · rw [if_neg e, if_neg (by omega), dig, show 10 - (11 - n + i) = n - 1 - i by omega]; omega
    · rw [if_neg hj, tm, ← own_H_dig]
      refine own_acc_eq _ _ n fun i hi => ?_
      rw [getd i hi, h.2 _ (by omega)]
      simp only
      rw [if_neg (by omega), dig, show 10 - (11 - n + i) = n - 1 - i by omega]
      omega
theorem own_tpos (x : Int64) : 0 ≤ (x &&& (9223372036854775807 : Int64)).toInt := by
  have := c_maskL x (9223372036854775807 : Int64) 63 (by decide) (by decide)
  rw [this]; exact Int.emod_nonneg _ (by decide)
theorem own_n12 (l : Int32) : 0 ≤ ((l &&& (2147483647 : Int32)) % (12 : Int32)).toInt ∧ ((l &&& (2147483647 : Int32)) % (12 : Int32)).toInt ≤ 11 := by
  have h1 := c_mask l (2147483647 : Int32) 31 (by decide) (by decide)
  have h2 := (c_irem (l &&& (2147483647 : Int32)) (12 : Int32) 12 rfl).1 (by rw [h1]; omega)
  rw [h2]; omega
theorem own_p11 (l : Int32) : 0 ≤ ((l &&& (2147483647 : Int32)) % (11 : Int32)).toInt ∧ ((l &&& (2147483647 : Int32)) % (11 : Int32)).toInt ≤ 10 := by
  have h1 := c_mask l (2147483647 : Int32) 31 (by decide) (by decide)
  have h2 := (c_irem (l &&& (2147483647 : Int32)) (11 : Int32) 11 rfl).1 (by rw [h1]; omega)
  rw [h2]; omega
theorem own_ccr (x : Int32) : 0 ≤ x.toUInt32.toUInt16.toUInt32.toInt32.toInt ∧ x.toUInt32.toUInt16.toUInt32.toInt32.toInt < 65536 := (c_i2c x).2
theorem own_pn {rp p n : Int32} (h : rp = 0 ∨ (rp = 1 ∧ p < n)) (q : ¬ rp = 0) : p.toInt < n.toInt := by
  rcases h with h | h
  · exact absurd h q
  · exact Int32.lt_iff_toInt_lt.mp h.2
theorem own_ixv {n p : Int32} (hn : 0 ≤ n.toInt ∧ n.toInt ≤ 11) (hp : 0 ≤ p.toInt ∧ p.toInt ≤ 10) (h : p.toInt < n.toInt) : (((11 : Int32) - n) + p).toInt = 11 - n.toInt + p.toInt := by
  have a := c_isub (11 : Int32) n
  have b := c_iadd ((11 : Int32) - n) p
  have r1 := rng32 ((11 : Int32) - n)
  have r2 := rng32 (((11 : Int32) - n) + p)
  rw [show (11 : Int32).toInt = 11 from rfl] at a
  omega
theorem own_inb {n p : Int32} (hn : 0 ≤ n.toInt ∧ n.toInt ≤ 11) (hp : 0 ≤ p.toInt ∧ p.toInt ≤ 10) (h : p.toInt < n.toInt) : ¬ (((11 : Int32) - n) + p) < 0 ∧ (((11 : Int32) - n) + p) < (11 : Int32) := by
  have e := own_ixv hn hp h
  rw [Int32.lt_iff_toInt_lt, Int32.lt_iff_toInt_lt, e, show (0 : Int32).toInt = 0 from rfl, show (11 : Int32).toInt = 11 from rfl]
  omega
theorem own_idx {n p : Int32} (hn : 0 ≤ n.toInt ∧ n.toInt ≤ 11) (hp : 0 ≤ p.toInt ∧ p.toInt ≤ 10) (h : p.toInt < n.toInt) : (((11 : Int32) - n) + p).toNatClampNeg = 11 - n.toInt.toNat + p.toInt.toNat := by
  show (((11 : Int32) - n) + p).toInt.toNat = _
  rw [own_ixv hn hp h]; omega
theorem own_idxlt {n p : Int32} (hn : 0 ≤ n.toInt ∧ n.toInt ≤ 11) (hp : 0 ≤ p.toInt ∧ p.toInt ≤ 10) (h : p.toInt < n.toInt) : 11 - n.toInt.toNat + p.toInt.toNat < 11 := by omega
theorem own_ge0 {n : Int32} (hn : 0 ≤ n.toInt ∧ n.toInt ≤ 11) : ¬ n < 0 := by
  rw [Int32.lt_iff_toInt_lt, show (0 : Int32).toInt = 0 from rfl]; omega
theorem own_lt12 {n : Int32} (hn : 0 ≤ n.toInt ∧ n.toInt ≤ 11) : n < (12 : Int32) := by
  rw [Int32.lt_iff_toInt_lt, show (12 : Int32).toInt = 12 from rfl]; omega
theorem own_kv {n p : Int32} (hn : 0 ≤ n.toInt ∧ n.toInt ≤ 11) (hp : 0 ≤ p.toInt ∧ p.toInt ≤ 10) (h : p.toInt < n.toInt) : ((n - (1 : Int32)) - p).toInt = n.toInt - 1 - p.toInt := by
  have a := c_isub n (1 : Int32)
  have b := c_isub (n - (1 : Int32)) p
  have r1 := rng32 (n - (1 : Int32))
  have r2 := rng32 ((n - (1 : Int32)) - p)
  rw [show (1 : Int32).toInt = 1 from rfl] at a
  omega
theorem own_kr {n p : Int32} (hn : 0 ≤ n.toInt ∧ n.toInt ≤ 11) (hp : 0 ≤ p.toInt ∧ p.toInt ≤ 10) (h : p.toInt < n.toInt) : 0 ≤ ((n - (1 : Int32)) - p).toInt ∧ ((n - (1 : Int32)) - p).toInt ≤ 11 := by
  rw [own_kv hn hp h]; omega
theorem own_nz {n : Int32} (h : ¬ n = 0) : n.toInt ≠ 0 := fun q => h (Int32.toInt_inj.mp (by rw [q]; rfl))
theorem own_i0 {n : Int32} (hn : 0 ≤ n.toInt ∧ n.toInt ≤ 11) : ((11 : Int32) - n).toInt = 11 - n.toInt := by
  have a := c_isub (11 : Int32) n
  have r1 := rng32 ((11 : Int32) - n)
  rw [show (11 : Int32).toInt = 11 from rfl] at a
  omega
theorem own_inb0 {n : Int32} (hn : 0 ≤ n.toInt ∧ n.toInt ≤ 11) (h : ¬ n = 0) : ¬ ((11 : Int32) - n) < 0 ∧ ((11 : Int32) - n) < (11 : Int32) := by
  have e := own_i0 hn
  have q := own_nz h
  rw [Int32.lt_iff_toInt_lt, Int32.lt_iff_toInt_lt, e, show (0 : Int32).toInt = 0 from rfl, show (11 : Int32).toInt = 11 from rfl]
  omega
theorem own_at0 (bs : List Int32) {n : Int32} (hn : 0 ≤ n.toInt ∧ n.toInt ≤ 11) : (bs.map Value.int).getD ((11 : Int32) - n).toNatClampNeg (.int 0) = .int (bs.getD (11 - n.toInt.toNat) 0) := by
  rw [show ((11 : Int32) - n).toNatClampNeg = 11 - n.toInt.toNat from by show ((11 : Int32) - n).toInt.toNat = _; rw [own_i0 hn]; omega]
  exact own_mapD bs _
theorem own_head_eq {bs : List Int32} {n : Int32} (hn : 0 ≤ n.toInt ∧ n.toInt ≤ 11) (h : ¬ n = 0) : (bs.drop (11 - n.toInt.toNat)).getD 0 0 = bs.getD (11 - n.toInt.toNat) 0 := by
  rw [List.getD_eq_getElem?_getD, List.getElem?_drop, Nat.add_zero, ← List.getD_eq_getElem?_getD]
theorem own_head {bs : List Int32} {n : Int32} (hn : 0 ≤ n.toInt ∧ n.toInt ≤ 11) (h : ¬ n = 0) (q : bs.getD (11 - n.toInt.toNat) 0 = (48 : Int32)) : (bs.drop (11 - n.toInt.toNat)).getD 0 0 = 48 := by
  rw [own_head_eq hn h]; exact q
theorem own_n10 {n : Int32} (hn : 0 ≤ n.toInt ∧ n.toInt ≤ 11) (h : (10 : Int32) < n) : 10 < n.toInt.toNat := by
  rw [Int32.lt_iff_toInt_lt, show (10 : Int32).toInt = 10 from rfl] at h; omega
theorem own_n1 {n : Int32} (hn : 0 ≤ n.toInt ∧ n.toInt ≤ 11) (h : (1 : Int32) < n) : 1 < n.toInt.toNat := by
  rw [Int32.lt_iff_toInt_lt, show (1 : Int32).toInt = 1 from rfl] at h; omega
theorem own_n1r {n : Int32} (hn : 0 ≤ n.toInt ∧ n.toInt ≤ 11) (h : 1 < n.toInt.toNat) : (1 : Int32) < n := by
  rw [Int32.lt_iff_toInt_lt, show (1 : Int32).toInt = 1 from rfl]; omega
theorem own_npos {cs : List Int32} {n : Int32} (hl : cs.length = n.toInt.toNat) (hn : 0 ≤ n.toInt ∧ n.toInt ≤ 11) (h : ¬ n = 0) : 0 < cs.length := by
  have := own_nz h; omega
theorem own_nle {cs : List Int32} {n : Int32} (hl : cs.length = n.toInt.toNat) (hn : 0 ≤ n.toInt ∧ n.toInt ≤ 11) (h : ¬ (10 : Int32) < n) : cs.length ≤ 10 := by
  rw [Int32.lt_iff_toInt_lt, show (10 : Int32).toInt = 10 from rfl] at h; omega
theorem own_dig_of {c : Int32} (h1 : ¬ c < (48 : Int32)) (h2 : ¬ (57 : Int32) < c) : own_dig c := by
  rw [Int32.lt_iff_toInt_lt, show (48 : Int32).toInt = 48 from rfl] at h1
  rw [Int32.lt_iff_toInt_lt, show (57 : Int32).toInt = 57 from rfl] at h2
  unfold own_dig; omega
theorem own_nd1 {c : Int32} (h1 : c < (48 : Int32)) : ¬ own_dig c := fun q => own_ge48 q h1
theorem own_nd2 {c : Int32} (h2 : (57 : Int32) < c) : ¬ own_dig c := fun q => own_le57 q h2
theorem own_cdig {cd c : Int32} (h : (cd = 0 ∧ ¬ own_dig c) ∨ (cd = 1 ∧ own_dig c)) (q : ¬ cd = 0) : own_dig c := by
  rcases h with h | h
  · exact absurd h.1 q
  · exact h.2
theorem own_bad {t : Int64} {cs bs : List Int32} {n p cd c : Int32} (hcs : cs = bs.drop (11 - n.toInt.toNat)) (h : own_bs t bs (some (11 - n.toInt.toNat + p.toInt.toNat, c))) (hn : 0 ≤ n.toInt ∧ n.toInt ≤ 11) (hpn : p.toInt < n.toInt) (hp : 0 ≤ p.toInt ∧ p.toInt ≤ 10) (hcd : (cd = 0 ∧ ¬ own_dig c) ∨ (cd = 1 ∧ own_dig c)) (q : cd = 0) : own_qid cs = -1 := by
  have nd : ¬ own_dig c := by
    rcases hcd with z | z
    · exact z.2
    · rw [z.1] at q; exact absurd q (by decide)
  have e := h.2 (11 - n.toInt.toNat + p.toInt.toNat) (by omega)
  simp only [if_pos] at e
  refine own_qid_bad (k := p.toInt.toNat) (by rw [hcs, List.length_drop, h.1]; omega) fun z => nd ?_
  rw [hcs, List.getD_eq_getElem?_getD, List.getElem?_drop, ← List.getD_eq_getElem?_getD] at z
  unfold own_dig at z ⊢
  omega
theorem own_digs {t : Int64} (ht : 0 ≤ t.toInt) {cs bs : List Int32} {rep : Option (Nat × Int32)} {n : Int32} (hcs : cs = bs.drop (11 - n.toInt.toNat)) (h : own_bs t bs rep) (hl : cs.length = n.toInt.toNat) (hn : 0 ≤ n.toInt ∧ n.toInt ≤ 11) (hd : match rep with | none => True | some (_, c) => own_dig c) : ∀ j, j < cs.length → own_dig (cs.getD j 0) := by
  intro j hj
  have e := h.2 (11 - n.toInt.toNat + j) (by omega)
  have d : 0 ≤ t.toInt / 10 ^ (10 - (11 - n.toInt.toNat + j)) % 10 ∧ t.toInt / 10 ^ (10 - (11 - n.toInt.toNat + j)) % 10 < 10 := ⟨Int.emod_nonneg _ (by decide), Int.emod_lt_of_pos _ (by decide)⟩
  rw [hcs, List.getD_eq_getElem?_getD, List.getElem?_drop, ← List.getD_eq_getElem?_getD]
  unfold own_dig
  rw [e]
  cases rep with
  | none => simp only; omega
  | some jc =>
    obtain ⟨j', c⟩ := jc
    simp only at hd ⊢
    unfold own_dig at hd
    split <;> omega
theorem own_vnone {t : Int64} (ht : 0 ≤ t.toInt) {cs bs : List Int32} {n : Int32} (h : own_bs t bs none) (hn : 0 ≤ n.toInt ∧ n.toInt ≤ 11) (h10 : ¬ (10 : Int32) < n) (hcs : cs = bs.drop (11 - n.toInt.toNat)) (hl : cs.length = n.toInt.toNat) : (t - (t / own_pw n) * own_pw n).toInt = own_acc cs cs.length := by
  rw [(c_lrem t (own_pw n) _ (own_pw_val hn.1 hn.2)).1 ht, hl, hcs, own_val ht h (by omega)]
theorem own_vrep {t : Int64} (ht : 0 ≤ t.toInt) {cs bs : List Int32} {n p c : Int32} (h : own_bs t bs (some (11 - n.toInt.toNat + p.toInt.toNat, c))) (hn : 0 ≤ n.toInt ∧ n.toInt ≤ 11) (hp : 0 ≤ p.toInt ∧ p.toInt ≤ 10) (hpn : p.toInt < n.toInt) (hcc : 0 ≤ c.toInt ∧ c.toInt < 65536) (h10 : ¬ (10 : Int32) < n) (hcs : cs = bs.drop (11 - n.toInt.toNat)) (hl : cs.length = n.toInt.toNat) :
    (((t - (t / own_pw n) * own_pw n) - (((t / own_pw ((n - (1 : Int32)) - p)) - ((t / own_pw ((n - (1 : Int32)) - p)) / (10 : Int64)) * (10 : Int64)) * own_pw ((n - (1 : Int32)) - p))) + ((c - (48 : Int32)).toInt64 * own_pw ((n - (1 : Int32)) - p))).toInt = own_acc cs cs.length := by
  have kr := own_kr hn hp hpn
  have kv := own_kv hn hp hpn
  rw [Int32.lt_iff_toInt_lt, show (10 : Int32).toInt = 10 from rfl] at h10
  have v1 := (c_lrem t (own_pw n) _ (own_pw_val hn.1 hn.2)).1 ht
  have pk := own_pw_val kr.1 kr.2
  have d1 := (c_ldiv t (own_pw ((n - (1 : Int32)) - p)) _ pk (own_pw_ne kr.1 kr.2).2).1 ht
  have d0 : 0 ≤ (t / own_pw ((n - (1 : Int32)) - p)).toInt := by rw [d1]; exact Int.ediv_nonneg ht (Int.le_of_lt (Int.pow_pos (by decide)))
  have d2 := (c_lrem (t / own_pw ((n - (1 : Int32)) - p)) (10 : Int64) 10 rfl).1 d0
  rw [d1] at d2
  have ek : ((n - (1 : Int32)) - p).toInt.toNat = 10 - (11 - n.toInt.toNat + p.toInt.toNat) := by rw [kv]; omega
  rw [ek] at pk d2
  have rhs := own_val ht h (n := n.toInt.toNat) (by omega)
  simp only at rhs
  rw [if_pos (by omega)] at rhs
  rw [hl, hcs, rhs]
  generalize hK : own_pw ((n - (1 : Int32)) - p) = K at *
  generalize hD : ((t / K) - ((t / K) / (10 : Int64)) * (10 : Int64)) = D at *
  generalize hV : (t - (t / own_pw n) * own_pw n) = V at *
  have m1 := c_lmul D K
  have s1 := c_lsub V (D * K)
  have i1 := c_isub c (48 : Int32)
  have i2 := c_i2l (c - (48 : Int32))
  have m2 := c_lmul (c - (48 : Int32)).toInt64 K
  have a1 := c_ladd (V - (D * K)) ((c - (48 : Int32)).toInt64 * K)
  have r0 := rng32 (c - (48 : Int32))
  have r1 := rng64 (D * K)
  have r2 := rng64 (V - (D * K))
  have r3 := rng64 ((c - (48 : Int32)).toInt64 * K)
  have r4 := rng64 ((V - (D * K)) + ((c - (48 : Int32)).toInt64 * K))
  rw [show (48 : Int32).toInt = 48 from rfl] at i1
  have kb : (1 : Int) ≤ 10 ^ (10 - (11 - n.toInt.toNat + p.toInt.toNat)) ∧ (10 : Int) ^ (10 - (11 - n.toInt.toNat + p.toInt.toNat)) ≤ 10000000000 := by
    have : 10 - (11 - n.toInt.toNat + p.toInt.toNat) ≤ 10 := by omega
    generalize 10 - (11 - n.toInt.toNat + p.toInt.toNat) = z at this
    have : z = 0 ∨ z = 1 ∨ z = 2 ∨ z = 3 ∨ z = 4 ∨ z = 5 ∨ z = 6 ∨ z = 7 ∨ z = 8 ∨ z = 9 ∨ z = 10 := by omega
    rcases this with rfl | rfl | rfl | rfl | rfl | rfl | rfl | rfl | rfl | rfl | rfl <;> decide
  have nb : (1 : Int) ≤ 10 ^ n.toInt.toNat ∧ (10 : Int) ^ n.toInt.toNat ≤ 10000000000 := by
    have : n.toInt.toNat ≤ 10 := by omega
    generalize n.toInt.toNat = z at this
    have : z = 0 ∨ z = 1 ∨ z = 2 ∨ z = 3 ∨ z = 4 ∨ z = 5 ∨ z = 6 ∨ z = 7 ∨ z = 8 ∨ z = 9 ∨ z = 10 := by omega
    rcases this with rfl | rfl | rfl | rfl | rfl | rfl | rfl | rfl | rfl | rfl | rfl <;> decide
  have vb : 0 ≤ V.toInt ∧ V.toInt < 10000000000 := by
    rw [v1]; exact ⟨Int.emod_nonneg _ (by omega), Int.lt_of_lt_of_le (Int.emod_lt_of_pos _ (by omega)) nb.2⟩
  have db : 0 ≤ D.toInt ∧ D.toInt < 10 := by rw [d2]; exact ⟨Int.emod_nonneg _ (by decide), Int.emod_lt_of_pos _ (by decide)⟩
  have x1 : 0 ≤ D.toInt * K.toInt ∧ D.toInt * K.toInt ≤ 100000000000 := by
    rw [pk]
    exact ⟨Int.mul_nonneg db.1 (by omega), Int.le_trans (Int.mul_le_mul (show D.toInt ≤ 10 by omega) kb.2 (by omega) (by decide)) (by decide)⟩
  have ci : (c - (48 : Int32)).toInt = c.toInt - 48 := by omega
  have x2 : -1000000000000 ≤ (c.toInt - 48) * K.toInt ∧ (c.toInt - 48) * K.toInt ≤ 1000000000000000 := by
    rw [pk]
    refine ⟨?_, Int.le_trans (Int.mul_le_mul (show c.toInt - 48 ≤ 100000 by omega) kb.2 (by omega) (by decide)) (by decide)⟩
    have := Int.mul_le_mul (show -(c.toInt - 48) ≤ 100 by omega) kb.2 (by omega) (by decide)
    rw [Int.neg_mul] at this
    omega
  rw [i2, ci] at m2
  have e1 : (D * K).toInt = D.toInt * K.toInt := by omega
  have e2 : ((c - (48 : Int32)).toInt64 * K).toInt = (c.toInt - 48) * K.toInt := by omega
  rw [d2, pk] at e1
  rw [pk] at e2
  rw [← v1, ← e1, ← e2]
  omega
theorem own_bs0 {t : Int64} {d0 d1 d2 d3 d4 d5 d6 d7 d8 d9 d10 : Int32} (ht : 0 ≤ t.toInt) (h0 : d0.toInt = 48 + t.toInt / (10000000000 : Int64).toInt % 10) (h1 : d1.toInt = 48 + t.toInt / (1000000000 : Int64).toInt % 10) (h2 : d2.toInt = 48 + t.toInt / (100000000 : Int64).toInt % 10) (h3 : d3.toInt = 48 + t.toInt / (10000000 : Int64).toInt % 10) (h4 : d4.toInt = 48 + t.toInt / (1000000 : Int64).toInt % 10) (h5 : d5.toInt = 48 + t.toInt / (100000 : Int64).toInt % 10) (h6 : d6.toInt = 48 + t.toInt / (10000 : Int64).toInt % 10) (h7 : d7.toInt = 48 + t.toInt / (1000 : Int64).toInt % 10) (h8 : d8.toInt = 48 + t.toInt / (100 : Int64).toInt % 10) (h9 : d9.toInt = 48 + t.toInt / (10 : Int64).toInt % 10) (h10 : d10.toInt = 48 + t.toInt / (1 : Int64).toInt % 10) :
    own_bs t [nar .char d0, nar .char d1, nar .char d2, nar .char d3, nar .char d4, nar .char d5, nar .char d6, nar .char d7, nar .char d8, nar .char d9, nar .char d10] none := by
  have nr : ∀ {d : Int32} {x : Int}, d.toInt = 48 + x % 10 → (nar .char d).toInt = 48 + x % 10 := fun {d x} e => by
    rw [own_nar16 (by rw [e]; omega) (by rw [e]; omega), e]
  refine ⟨rfl, fun i hi => ?_⟩
  have : i = 0 ∨ i = 1 ∨ i = 2 ∨ i = 3 ∨ i = 4 ∨ i = 5 ∨ i = 6 ∨ i = 7 ∨ i = 8 ∨ i = 9 ∨ i = 10 := by omega
  rcases this with rfl | rfl | rfl | rfl | rfl | rfl | rfl | rfl | rfl | rfl | rfl
  · exact nr h0
  · exact nr h1
  · exact nr h2
  · exact nr h3
  · exact nr h4
  · exact nr h5
  · exact nr h6
  · exact nr h7
  · exact nr h8
  · exact nr h9
  · exact nr h10
theorem own_bs_set {t : Int64} {ds : List Int32} {j : Nat} {c : Int32} (h : own_bs t ds none) (hc : 0 ≤ c.toInt ∧ c.toInt < 65536) (hj : j < 11) : own_bs t (List.set ds j (nar .char c)) (some (j, c)) := by
  refine ⟨by rw [List.length_set]; exact h.1, fun i hi => ?_⟩
  simp only
  by_cases e : i = j
  · subst e
    rw [if_pos rfl, List.getD_eq_getElem?_getD, List.getElem?_set_self (by rw [h.1]; exact hj)]
    show (nar .char c).toInt = _
    rw [own_nar16 hc.1 hc.2]
  · rw [if_neg e, List.getD_eq_getElem?_getD, List.getElem?_set_ne (Ne.symm e), ← List.getD_eq_getElem?_getD]
    exact h.2 i hi
theorem own_eqInt {args : Array Value} {s : State} {t : Term} {n : Int32} (h : (Cond.eq t (Term.int n)).value args s none s [] = some true) : t.eval args s none [] s = some (.int n) := by
  obtain ⟨x, y, ex, ey, kx, ky⟩ := cmp_v (Or.inl h)
  have e : y = .int n := (Option.some.inj ((Term.int_eval n).symm.trans ey)).symm
  subst e
  obtain ⟨z, rfl⟩ := ky
  have := gotT (Cond.eq_ints ex (Term.int_eval n)) h
  rw [ex, this]
theorem own_hl {n : Int32} (hn : 0 ≤ n.toInt ∧ n.toInt ≤ 11) : 11 - (11 - n.toInt.toNat) = n.toInt.toNat := by omega
theorem own_c11 {cs : List Int32} {n : Int32} (hl : cs.length = n.toInt.toNat) (hn : 0 ≤ n.toInt ∧ n.toInt ≤ 11) : cs.length ≤ 11 := by omega

/-- a String whose value is null yet is no literal's -/
theorem own_safe_null {Z : State} {EL : List (String × Nat)} {vm : Vm} {h : Heap} {x : Addr} (hal : Z.vm.Alike vm) (E : Exa Z h x "java/lang/String") (F : Fld Z h x "java/lang/String" "value" "[B" .null) : Safe Z EL vm h x := fun B => by
  obtain ⟨p, hp, u, a, hb, q, hq, S, hy⟩ := B
  have hd := S.hd
  obtain ⟨cS, ⟨⟨s1, s2, s3, ⟨cv, kv, iv, s4, s4'⟩, ⟨cc, kc, ic, s5, s5'⟩, s6, s7, s8, s9, s10, s11, s12, s13, s14, s15, s16⟩, hfS, hcS⟩, ⟨kS, k1, k2, k3⟩, hB, hbyt⟩ := S
  rcases hy with e1 | e1
  · obtain ⟨kv', z4⟩ := ff_back (U := Wst Z vm h) hal s4
    have G : Fld Z h q.sa "java/lang/String" "value" "[B" (.ref q.sd) := ⟨q.sC, cv, kv', iv, q.fSV, s1, z4, s6, s2, s3, by rw [← hal.assignable]; exact s4', s8⟩
    exact Fld.ne F G (by simp) e1
  · obtain ⟨cell, k, e2, e3, e4, -⟩ := E
    rw [e1] at e2
    have hd' : h[q.sd]? = some q.SA := hd
    cases e2.symm.trans hd'
    have hB' : vm.findClass "[B" = some q.SA.cls := hB
    rw [hal.findClass] at hB'
    exact ids_ne e3 hB' (by decide) rfl

theorem own_strAtoms {Z : State} {a0 : Array Value} (hw : ∀ d ∈ tables_1, d.before a0 Z = true) : ∀ a ∈ Bundle.stringAtoms, a.before a0 Z = true := by
  intro a ha
  simp only [Bundle.stringAtoms, List.mem_cons, List.not_mem_nil, or_false] at ha
  rcases ha with rfl | rfl | rfl | rfl | rfl | rfl | rfl
  · exact hw _ (List.mem_of_getElem? (i := 25) rfl)
  · exact hw _ (List.mem_of_getElem? (i := 24) rfl)
  · exact hw _ (List.mem_of_getElem? (i := 41) rfl)
  · exact hw _ (List.mem_of_getElem? (i := 51) rfl)
  · exact hw _ (List.mem_of_getElem? (i := 49) rfl)
  · exact hw _ (List.mem_of_getElem? (i := 122) rfl)
  · exact hw _ (List.mem_of_getElem? (i := 123) rfl)
def own_EL : List (String × Nat) := [("java/lang/String", 7)]
theorem own_EW {Z : State} {a0 : Array Value} (hw : ∀ d ∈ tables_1, d.before a0 Z = true) : EW Z a0 own_EL := (EW.cons (wT hw 121 rfl) (by decide) EW.nil)
def Q_rmPc (Z : State) (i : Int32) (n : Int32) (h0 : Heap) (n0 : Nat) (v : Option Value) (h : Heap) (L : List Loc) : Prop := v = some (.int i) ∧ Fr n0 L ∧ h = h0
theorem own_h1 : plainName "jdk/internal/util/Preconditions" = true := by first | (simp [plainName, overriddenIn]; done) | decide +kernel
theorem own_h2 : decode jdk_41_method_11_code 0 = .ok (.iload_n 0, 1) := by decide +kernel
theorem own_h3 : decode jdk_41_method_11_code 1 = .ok (.ifCond .lt 8, 3) := by decide +kernel
theorem own_h4 : decode jdk_41_method_11_code 4 = .ok (.iload_n 0, 1) := by decide +kernel
theorem own_h5 : decode jdk_41_method_11_code 5 = .ok (.iload_n 1, 1) := by decide +kernel
theorem own_h6 : decode jdk_41_method_11_code 6 = .ok (.if_icmp .lt 10, 3) := by decide +kernel
theorem own_h7 : decode jdk_41_method_11_code 16 = .ok (.iload_n 0, 1) := by decide +kernel
theorem own_h8 : decode jdk_41_method_11_code 17 = .ok (.ireturn, 1) := by decide +kernel
theorem rmPc (l : Launch) (Z : State) (a0 : Array Value) (hw : ∀ d ∈ tables_1, d.before a0 Z = true) (ws : List Jvm.Cond) (i : Int32) (n : Int32) (h0 : Heap) (n0 : Nat) (Z0 : n0 ≤ h0.size) (hi0 : ¬ i < 0) (hi1 : i < n) (gv : Value) (sG : Sta Z Z.heap "jdk/internal/util/Preconditions" "SIOOBE_FORMATTER" "Ljava/util/function/BiFunction;" gv) (hg : gv.isRef = true) :
    own_Met l (⟨"jdk/internal/util/Preconditions", "checkIndex", "(IILjava/util/function/BiFunction;)I"⟩ : MethodName) jdk_41_method_11_code 3 (some .int) ws (rO 0 0 0 0) #[(.int i), (.int n), gv] Z h0 (Q_rmPc Z i n h0 n0) := by
 refine MetFree.of_bodySF (plainFor_of_name own_h1) hisR ?_
 intro p e s m args below meth c s₁ Bd hml0 hP hK
 obtain ⟨rfl, hZ, hh⟩ := hP
 have hx := Bd.exec
 have hby := Bd.bytes
 have hml : c.maxLocals = 3 := hml0
 have hown : s.vm.findClass "jdk/internal/util/Preconditions" = some m.cls := findClass_of_methodNamed Bd.named
 have hnm := (name_of_methodNamed Bd.named Bd.method).1
 have X0 : Stand p l e (rO 0 0 0 0) s m #[(.int i), (.int n), gv] below meth c s₁ [] 0 0 := Stand.of_body Bd
 have e0 : s₁.heap = h0 := by rw [← hh, Bd.state]; rfl
 have N0 := Fr.nil n0
 obtain ⟨B_, hB_⟩ : ∃ z, z = s₁.setTop (entryFrame m #[(.int i), (.int n), gv] 3) := ⟨_, rfl⟩
 have k0 : own_K p e below (s₁.setTop (mkF m 0 #[.val (.int i), .val (.int n), .val gv] [])) B_ := by rw [hB_]; exact fun t k => castTop (by clear k; rcases ref_cases hg with rfl | ⟨z_, rfl⟩ <;> first | (simp [entryFrame, mkF, argsToLocals, Value.category, maxLocals]; done) | rfl) k
 have k1 : own_J p e below s₁ m 17 #[.val (.int i), .val (.int n), .val gv] [(.int i)] B_ := fun t_ hh => k0 t_ (by
  refine XS.iloadN X0.here hx rfl (hb hby own_h2) rfl ?_
  refine XS.ifNo X0.here hx rfl (hb hby own_h3) rfl (own_ifF_lt hi0) ?_
  refine XS.iloadN X0.here hx rfl (hb hby own_h4) rfl ?_
  refine XS.iloadN X0.here hx rfl (hb hby own_h5) rfl ?_
  refine XS.icmpYes X0.here hx rfl (pc0 := 6) (pc' := 16) rfl (hb hby own_h6) rfl (own_icT_lt hi1) (by decide) (by decide) ?_
  refine XS.iloadN X0.here hx rfl (hb hby own_h7) rfl ?_
  exact hh)
 obtain ⟨fs, hr, hrun, hended, hW, hsame⟩ := X0.leave (v := some (.int i)) (fun h => by rw [Bd.returns] at h; cases h)
 refine ⟨_, _, (own_from hB_ (k1 _ (retOut X0 hx (t := .int) Bd.returns rfl (Or.inl ⟨rfl, (by simp), _, rfl⟩) (hb hby own_h8) hr))), hrun, hended, _, _, rfl, ?_, ⟨_, rfl⟩, hW, hsame.mono (own_l rfl) (own_l rfl)⟩
 show Q_rmPc Z i n h0 n0 _ s₁.heap _
 rw [e0]
 exact ⟨rfl, N0, rfl⟩
def Q_rmCk (Z : State) (i : Int32) (n : Int32) (h0 : Heap) (n0 : Nat) (v : Option Value) (h : Heap) (L : List Loc) : Prop := v = none ∧ Fr n0 L ∧ h = h0
theorem own_h9 : plainName "java/lang/String" = true := by first | (simp [plainName, overriddenIn]; done) | decide +kernel
theorem own_h10 : decode jdk_42_method_155_code 0 = .ok (.iload_n 0, 1) := by decide +kernel
theorem own_h11 : decode jdk_42_method_155_code 1 = .ok (.iload_n 1, 1) := by decide +kernel
theorem own_h12 : decode jdk_42_method_155_code 2 = .ok (.getstatic 1053, 3) := by decide +kernel
theorem own_h13 : decode jdk_42_method_155_code 5 = .ok (.invokestatic 1059, 3) := by decide +kernel
theorem own_h14 : parseMethodDescriptor "(IILjava/util/function/BiFunction;)I" = some ⟨[.int, .int, .object "java/util/function/BiFunction"], some .int⟩ := by decide +kernel
theorem own_h15 : decode jdk_42_method_155_code 8 = .ok (.pop, 1) := by decide +kernel
theorem own_h16 : decode jdk_42_method_155_code 9 = .ok (.return_, 1) := by decide +kernel
theorem rmCk (l : Launch) (Z : State) (a0 : Array Value) (hw : ∀ d ∈ tables_1, d.before a0 Z = true) (ws : List Jvm.Cond) (i : Int32) (n : Int32) (h0 : Heap) (n0 : Nat) (Z0 : n0 ≤ h0.size) (hi0 : ¬ i < 0) (hi1 : i < n) (f2_ : Old Z n0 h0) (gv : Value) (sG : Sta Z Z.heap "jdk/internal/util/Preconditions" "SIOOBE_FORMATTER" "Ljava/util/function/BiFunction;" gv) (hg : gv.isRef = true) :
    own_Met l (⟨"java/lang/String", "checkIndex", "(II)V"⟩ : MethodName) jdk_42_method_155_code 2 none ws (rO 1 0 0 14) #[(.int i), (.int n)] Z h0 (Q_rmCk Z i n h0 n0) := by
 refine MetFree.of_bodySF (plainFor_of_name own_h9) hisR ?_
 intro p e s m args below meth c s₁ Bd hml0 hP hK
 obtain ⟨rfl, hZ, hh⟩ := hP
 have hx := Bd.exec
 have hby := Bd.bytes
 have hml : c.maxLocals = 2 := hml0
 have hown : s.vm.findClass "java/lang/String" = some m.cls := findClass_of_methodNamed Bd.named
 have hnm := (name_of_methodNamed Bd.named Bd.method).1
 have X0 : Stand p l e (rO 1 0 0 14) s m #[(.int i), (.int n)] below meth c s₁ [] 0 0 := Stand.of_body Bd
 have e0 : s₁.heap = h0 := by rw [← hh, Bd.state]; rfl
 have N0 := Fr.nil n0
 obtain ⟨B_, hB_⟩ : ∃ z, z = s₁.setTop (entryFrame m #[(.int i), (.int n)] 2) := ⟨_, rfl⟩
 have k0 : own_K p e below (s₁.setTop (mkF m 0 #[.val (.int i), .val (.int n)] [])) B_ := by rw [hB_]; exact fun t k => castTop (by clear k; first | (simp [entryFrame, mkF, argsToLocals, Value.category, maxLocals]; done) | rfl) k
 have k1 : own_J p e below s₁ m 2 #[.val (.int i), .val (.int n)] [(.int n), (.int i)] B_ := fun t_ hh => k0 t_ (by
  refine XS.iloadN X0.here hx rfl (hb hby own_h10) rfl ?_
  refine XS.iloadN X0.here hx rfl (hb hby own_h11) rfl ?_
  exact hh)
 obtain ⟨T21, X22, e23, st24⟩ := getS X0 hx hZ hown (host := "") (wT hw 83 rfl) Via.refl e0 (Sta.ext f2_.2 sG) (g := (mkF m 2 #[.val (.int i), .val (.int n)] [(.int n), (.int i)])) rfl (hb hby own_h12)
 have k2 : own_J p e below T21 m 5 #[.val (.int i), .val (.int n)] [gv, (.int n), (.int i)] B_ := fun t_ hh => k1 t_ (st24 t_ hh)
 clear k1 st24
 obtain ⟨_, _, ⟨T25, L26, k_27, n_28⟩, -, X29, ⟨Lc30, hQ31, l_32, y_33, z_34⟩, st35⟩ := Jvm.LawKit.callS X22 hx (y := (⟨"jdk/internal/util/Preconditions", "checkIndex", "(IILjava/util/function/BiFunction;)I"⟩ : MethodName)) hown (mvT hZ (wT hw 85 rfl)) (mvT hZ (wT hw 86 rfl)) (mvT hZ (wT hw 84 rfl)) (mvT hZ (wT hw 87 rfl)) (by decide) (backOf (W := 0) (rmPc l Z a0 hw [] i n h0 n0 Z0 hi0 hi1 gv sG hg) hZ (wT hw 87 rfl) (wT hw 84 rfl) (by decide) (by decide)) (g := (mkF m 5 #[.val (.int i), .val (.int n)] [gv, (.int n), (.int i)])) rfl (by rw [hml]; rfl) (argsL := [(.int i), (.int n), gv]) (rest := []) (lenOf own_h14 rfl) rfl (by show 2 * 0 + _ ≤ _; exact Nat.le_of_eq rfl) (hb hby own_h13) (fun _ _ => ⟨rfl, e23, own_l rfl, own_l rfl⟩)
 dsimp only [Pt.U, Pt.locs, Pt.cells, Pt.slots] at X29 l_32 y_33 z_34 st35 hQ31
 replace l_32 := l_32.symm
 subst l_32 y_33 z_34
 obtain ⟨rfl, N36, e37⟩ := hQ31
 have N38 := Fr.app N0 N36
 have k3 : own_J p e below T25 m 8 #[.val (.int i), .val (.int n)] [(.int i)] B_ := fun t_ hh => k2 t_ (st35 t_ hh)
 clear k2 st35 X22 e23
 have k4 : own_J p e below T25 m 9 #[.val (.int i), .val (.int n)] [] B_ := fun t_ hh => k3 t_ (by
  refine XS.pop X29.here hx rfl (hb hby own_h15) rfl rfl ?_
  exact hh)
 clear k3
 obtain ⟨fs, hr, hrun, hended, hW, hsame⟩ := X29.leave (v := none) (fun _ => rfl)
 refine ⟨_, _, (own_from hB_ (k4 _ (X29.returnOut hx Bd.returns (hb hby own_h16) hr))), hrun, hended, _, _, rfl, ?_, ⟨_, rfl⟩, hW, hsame.mono (own_l rfl) (own_l rfl)⟩
 show Q_rmCk Z i n h0 n0 _ T25.heap _
 rw [e37]
 exact ⟨rfl, N38, rfl⟩
def Q_rmLn (Z : State) (t : Addr) (kt : ClassId) (N : Nat) (ds : List Value) (h0 : Heap) (n0 : Nat) (v : Option Value) (h : Heap) (L : List Loc) : Prop := v = some (.int (Int32.ofNat N)) ∧ Fr n0 L ∧ h = h0
theorem own_h17 : plainName "java/lang/StringUTF16" = true := by first | (simp [plainName, overriddenIn]; done) | decide +kernel
theorem own_h18 : decode jdk_52_method_6_code 0 = .ok (.aload_n 0, 1) := by decide +kernel
theorem own_h19 : decode jdk_52_method_6_code 1 = .ok (.arraylength, 1) := by decide +kernel
theorem own_h20 : decode jdk_52_method_6_code 2 = .ok (.iconst 1, 1) := by decide +kernel
theorem own_h21 : decode jdk_52_method_6_code 3 = .ok (.ishr, 1) := by decide +kernel
theorem own_h22 : decode jdk_52_method_6_code 4 = .ok (.ireturn, 1) := by decide +kernel
theorem rmLn (l : Launch) (Z : State) (a0 : Array Value) (hw : ∀ d ∈ tables_1, d.before a0 Z = true) (ws : List Jvm.Cond) (t : Addr) (kt : ClassId) (N : Nat) (ds : List Value) (h0 : Heap) (n0 : Nat) (Z0 : n0 ≤ h0.size) (f0_ : Arv Z h0 t kt .byte (Int32.ofNat (2 * N)) ds (.int (0 : Int32))) (hN : N ≤ 11)  :
    own_Met l (⟨"java/lang/StringUTF16", "length", "([B)I"⟩ : MethodName) jdk_52_method_6_code 1 (some .int) ws (rO 0 0 0 0) #[(.ref t)] Z h0 (Q_rmLn Z t kt N ds h0 n0) := by
 refine MetFree.of_bodySF (plainFor_of_name own_h17) hisR ?_
 intro p e s m args below meth c s₁ Bd hml0 hP hK
 obtain ⟨rfl, hZ, hh⟩ := hP
 have hx := Bd.exec
 have hby := Bd.bytes
 have hml : c.maxLocals = 1 := hml0
 have hown : s.vm.findClass "java/lang/StringUTF16" = some m.cls := findClass_of_methodNamed Bd.named
 have hnm := (name_of_methodNamed Bd.named Bd.method).1
 have X0 : Stand p l e (rO 0 0 0 0) s m #[(.ref t)] below meth c s₁ [] 0 0 := Stand.of_body Bd
 have e0 : s₁.heap = h0 := by rw [← hh, Bd.state]; rfl
 have N0 := Fr.nil n0
 obtain ⟨B_, hB_⟩ : ∃ z, z = s₁.setTop (entryFrame m #[(.ref t)] 1) := ⟨_, rfl⟩
 have k0 : own_K p e below (s₁.setTop (mkF m 0 #[.val (.ref t)] [])) B_ := by rw [hB_]; exact fun t k => castTop (by clear k; first | (simp [entryFrame, mkF, argsToLocals, Value.category, maxLocals]; done) | rfl) k
 obtain ⟨cl21, Ar22, -, S23, Ng24, -, -⟩ := id f0_
 have k1 : own_J p e below s₁ m 4 #[.val (.ref t)] [(.int ((Int32.ofNat (2 * N)) >>> ((1 : Int32) &&& 31)))] B_ := fun t_ hh => k0 t_ (by
  refine XS.aloadN X0.here hx rfl (hb hby own_h18) rfl rfl ?_
  refine X0.arraylength hx (by rw [e0]; exact Ar22.1) (State.isArrayOf_alike hZ.alike Ar22.2.1) (g := (mkF m 1 #[.val (.ref t)] [(.ref t)])) rfl rfl (hb hby own_h19) _ ?_
  rw [len_of S23 Ng24]
  refine XS.iconst X0.here hx rfl (hb hby own_h20) ?_
  refine XS.ishr X0.here hx rfl (hb hby own_h21) rfl ?_
  exact hh)
 obtain ⟨fs, hr, hrun, hended, hW, hsame⟩ := X0.leave (v := some (.int ((Int32.ofNat (2 * N)) >>> ((1 : Int32) &&& 31)))) (fun h => by rw [Bd.returns] at h; cases h)
 refine ⟨_, _, (own_from hB_ (k1 _ (retOut X0 hx (t := .int) Bd.returns rfl (Or.inl ⟨rfl, (by simp), _, rfl⟩) (hb hby own_h22) hr))), hrun, hended, _, _, rfl, ?_, ⟨_, rfl⟩, hW, hsame.mono (own_l rfl) (own_l rfl)⟩
 show Q_rmLn Z t kt N ds h0 n0 _ s₁.heap _
 rw [e0]
 exact ⟨(by rw [own_shr1 (by omega)]), N0, rfl⟩
def Q_rmCk16 (Z : State) (j : Nat) (t : Addr) (kt : ClassId) (N : Nat) (ds : List Value) (h0 : Heap) (n0 : Nat) (v : Option Value) (h : Heap) (L : List Loc) : Prop := v = none ∧ Fr n0 L ∧ h = h0
theorem own_h23 : decode jdk_52_method_91_code 0 = .ok (.iload_n 0, 1) := by decide +kernel
theorem own_h24 : decode jdk_52_method_91_code 1 = .ok (.aload_n 1, 1) := by decide +kernel
theorem own_h25 : decode jdk_52_method_91_code 2 = .ok (.invokestatic 48, 3) := by decide +kernel
theorem own_h26 : parseMethodDescriptor "([B)I" = some ⟨[.array .byte], some .int⟩ := by decide +kernel
theorem own_h27 : decode jdk_52_method_91_code 5 = .ok (.invokestatic 414, 3) := by decide +kernel
theorem own_h28 : parseMethodDescriptor "(II)V" = some ⟨[.int, .int], none⟩ := by decide +kernel
theorem own_h29 : decode jdk_52_method_91_code 8 = .ok (.return_, 1) := by decide +kernel
theorem rmCk16 (l : Launch) (Z : State) (a0 : Array Value) (hw : ∀ d ∈ tables_1, d.before a0 Z = true) (ws : List Jvm.Cond) (j : Nat) (t : Addr) (kt : ClassId) (N : Nat) (ds : List Value) (h0 : Heap) (n0 : Nat) (Z0 : n0 ≤ h0.size) (f0_ : Arv Z h0 t kt .byte (Int32.ofNat (2 * N)) ds (.int (0 : Int32))) (hN : N ≤ 11) (hj : j < N) (f3_ : Old Z n0 h0) (gv : Value) (sG : Sta Z Z.heap "jdk/internal/util/Preconditions" "SIOOBE_FORMATTER" "Ljava/util/function/BiFunction;" gv) (hg : gv.isRef = true) :
    own_Met l (⟨"java/lang/StringUTF16", "checkIndex", "(I[B)V"⟩ : MethodName) jdk_52_method_91_code 2 none ws (rO 2 0 0 27) #[(.int (Int32.ofNat j)), (.ref t)] Z h0 (Q_rmCk16 Z j t kt N ds h0 n0) := by
 refine MetFree.of_bodySF (plainFor_of_name own_h17) hisR ?_
 intro p e s m args below meth c s₁ Bd hml0 hP hK
 obtain ⟨rfl, hZ, hh⟩ := hP
 have hx := Bd.exec
 have hby := Bd.bytes
 have hml : c.maxLocals = 2 := hml0
 have hown : s.vm.findClass "java/lang/StringUTF16" = some m.cls := findClass_of_methodNamed Bd.named
 have hnm := (name_of_methodNamed Bd.named Bd.method).1
 have X0 : Stand p l e (rO 2 0 0 27) s m #[(.int (Int32.ofNat j)), (.ref t)] below meth c s₁ [] 0 0 := Stand.of_body Bd
 have e0 : s₁.heap = h0 := by rw [← hh, Bd.state]; rfl
 have N0 := Fr.nil n0
 obtain ⟨B_, hB_⟩ : ∃ z, z = s₁.setTop (entryFrame m #[(.int (Int32.ofNat j)), (.ref t)] 2) := ⟨_, rfl⟩
 have k0 : own_K p e below (s₁.setTop (mkF m 0 #[.val (.int (Int32.ofNat j)), .val (.ref t)] [])) B_ := by rw [hB_]; exact fun t k => castTop (by clear k; first | (simp [entryFrame, mkF, argsToLocals, Value.category, maxLocals]; done) | rfl) k
 have k1 : own_J p e below s₁ m 2 #[.val (.int (Int32.ofNat j)), .val (.ref t)] [(.ref t), (.int (Int32.ofNat j))] B_ := fun t_ hh => k0 t_ (by
  refine XS.iloadN X0.here hx rfl (hb hby own_h23) rfl ?_
  refine XS.aloadN X0.here hx rfl (hb hby own_h24) rfl rfl ?_
  exact hh)
 obtain ⟨_, _, ⟨T21, L22, k_23, n_24⟩, -, X25, ⟨Lc26, hQ27, l_28, y_29, z_30⟩, st31⟩ := Jvm.LawKit.callS X0 hx (y := (⟨"java/lang/StringUTF16", "length", "([B)I"⟩ : MethodName)) hown (mvT hZ (wT hw 113 rfl)) (mvT hZ (wT hw 114 rfl)) (mvT hZ (wT hw 39 rfl)) (mvT hZ (wT hw 115 rfl)) (by decide) (backOf (W := 1) (rmLn l Z a0 hw [] t kt N ds h0 n0 Z0 f0_ hN ) hZ (wT hw 115 rfl) (wT hw 39 rfl) (by decide) (by decide)) (g := (mkF m 2 #[.val (.int (Int32.ofNat j)), .val (.ref t)] [(.ref t), (.int (Int32.ofNat j))])) rfl (by rw [hml]; rfl) (argsL := [(.ref t)]) (rest := [(.int (Int32.ofNat j))]) (lenOf own_h26 rfl) rfl (by show 2 * 0 + _ ≤ _; exact Nat.le_of_eq rfl) (hb hby own_h25) (fun _ _ => ⟨rfl, e0, own_l rfl, own_l rfl⟩)
 dsimp only [Pt.U, Pt.locs, Pt.cells, Pt.slots] at X25 l_28 y_29 z_30 st31 hQ27
 replace l_28 := l_28.symm
 subst l_28 y_29 z_30
 obtain ⟨rfl, N32, e33⟩ := hQ27
 have N34 := Fr.app N0 N32
 have k2 : own_J p e below T21 m 5 #[.val (.int (Int32.ofNat j)), .val (.ref t)] [(.int (Int32.ofNat N)), (.int (Int32.ofNat j))] B_ := fun t_ hh => k1 t_ (st31 t_ hh)
 clear k1 st31
 obtain ⟨_, _, ⟨T35, L36, k_37, n_38⟩, -, X39, ⟨Lc40, hQ41, l_42, y_43, z_44⟩, st45⟩ := Jvm.LawKit.callS X25 hx (y := (⟨"java/lang/String", "checkIndex", "(II)V"⟩ : MethodName)) hown (mvT hZ (wT hw 116 rfl)) (mvT hZ (wT hw 81 rfl)) (mvT hZ (wT hw 25 rfl)) (mvT hZ (wT hw 82 rfl)) (by decide) (backOf (W := 0) (rmCk l Z a0 hw [] (Int32.ofNat j) (Int32.ofNat N) h0 n0 Z0 (own_nneg (by omega)) ((own_lt32 (by omega) (by omega)).mpr (by omega)) f3_ gv sG hg) hZ (wT hw 82 rfl) (wT hw 25 rfl) (by decide) (by decide)) (g := (mkF m 5 #[.val (.int (Int32.ofNat j)), .val (.ref t)] [(.int (Int32.ofNat N)), (.int (Int32.ofNat j))])) rfl (by rw [hml]; rfl) (argsL := [(.int (Int32.ofNat j)), (.int (Int32.ofNat N))]) (rest := []) (lenOf own_h28 rfl) rfl (by show 2 * 0 + _ ≤ _; exact Nat.le_of_eq rfl) (hb hby own_h27) (fun _ _ => ⟨rfl, e33, own_l rfl, own_l rfl⟩)
 dsimp only [Pt.U, Pt.locs, Pt.cells, Pt.slots] at X39 l_42 y_43 z_44 st45 hQ41
 replace l_42 := l_42.symm
 subst l_42 y_43 z_44
 obtain ⟨rfl, N46, e47⟩ := hQ41
 have N48 := Fr.app N34 N46
 have k3 : own_J p e below T35 m 8 #[.val (.int (Int32.ofNat j)), .val (.ref t)] [] B_ := fun t_ hh => k2 t_ (st45 t_ hh)
 clear k2 st45 X25 e33
 obtain ⟨fs, hr, hrun, hended, hW, hsame⟩ := X39.leave (v := none) (fun _ => rfl)
 refine ⟨_, _, (own_from hB_ (k3 _ (X39.returnOut hx Bd.returns (hb hby own_h29) hr))), hrun, hended, _, _, rfl, ?_, ⟨_, rfl⟩, hW, hsame.mono (own_l rfl) (own_l rfl)⟩
 show Q_rmCk16 Z j t kt N ds h0 n0 _ T35.heap _
 rw [e47]
 exact ⟨rfl, N48, rfl⟩
def Q_rmPut (Z : State) (j : Nat) (cv : Int32) (t : Addr) (kt : ClassId) (N : Nat) (ds : List Value) (h0 : Heap) (n0 : Nat) (v : Option Value) (h : Heap) (L : List Loc) : Prop := v = none ∧ Fr n0 L ∧ Keep h0 h [t] ∧ Arv Z h t kt .byte (Int32.ofNat (2 * N)) (List.set (List.set ds (2 * j) (.int ((own_lo cv).toInt8.toInt32))) (2 * j + 1) (.int ((own_hi cv).toInt8.toInt32))) (.int (0 : Int32)) ∧ True
theorem own_h30 : decode jdk_52_method_4_code 0 = .ok (.getstatic 44, 3) := by decide +kernel
theorem own_h31 : decode jdk_52_method_4_code 3 = .ok (.ifCond .ne 25, 3) := by decide +kernel
theorem own_h32 : decode jdk_52_method_4_code 28 = .ok (.iload_n 1, 1) := by decide +kernel
theorem own_h33 : decode jdk_52_method_4_code 29 = .ok (.iconst 1, 1) := by decide +kernel
theorem own_h34 : decode jdk_52_method_4_code 30 = .ok (.ishl, 1) := by decide +kernel
theorem own_h35 : decode jdk_52_method_4_code 31 = .ok (.istore_n 1, 1) := by decide +kernel
theorem own_h36 : decode jdk_52_method_4_code 32 = .ok (.aload_n 0, 1) := by decide +kernel
theorem own_h37 : decode jdk_52_method_4_code 33 = .ok (.iload_n 1, 1) := by decide +kernel
theorem own_h38 : decode jdk_52_method_4_code 34 = .ok (.iinc 1 1, 3) := by decide +kernel
theorem own_h39 : decode jdk_52_method_4_code 37 = .ok (.iload_n 2, 1) := by decide +kernel
theorem own_h40 : decode jdk_52_method_4_code 38 = .ok (.getstatic 59, 3) := by decide +kernel
theorem own_h41 : decode jdk_52_method_4_code 41 = .ok (.ishr, 1) := by decide +kernel
theorem own_h42 : decode jdk_52_method_4_code 42 = .ok (.i2b, 1) := by decide +kernel
theorem own_h43 : decode jdk_52_method_4_code 43 = .ok (.bastore, 1) := by decide +kernel
theorem own_h44 : decode jdk_52_method_4_code 44 = .ok (.aload_n 0, 1) := by decide +kernel
theorem own_h45 : decode jdk_52_method_4_code 45 = .ok (.iload_n 1, 1) := by decide +kernel
theorem own_h46 : decode jdk_52_method_4_code 46 = .ok (.iload_n 2, 1) := by decide +kernel
theorem own_h47 : decode jdk_52_method_4_code 47 = .ok (.getstatic 63, 3) := by decide +kernel
theorem own_h48 : decode jdk_52_method_4_code 50 = .ok (.ishr, 1) := by decide +kernel
theorem own_h49 : decode jdk_52_method_4_code 51 = .ok (.i2b, 1) := by decide +kernel
theorem own_h50 : decode jdk_52_method_4_code 52 = .ok (.bastore, 1) := by decide +kernel
theorem own_h51 : decode jdk_52_method_4_code 53 = .ok (.return_, 1) := by decide +kernel
theorem rmPut (l : Launch) (Z : State) (a0 : Array Value) (hw : ∀ d ∈ tables_1, d.before a0 Z = true) (ws : List Jvm.Cond) (j : Nat) (cv : Int32) (t : Addr) (kt : ClassId) (N : Nat) (ds : List Value) (h0 : Heap) (n0 : Nat) (Z0 : n0 ≤ h0.size) (f0_ : Arv Z h0 t kt .byte (Int32.ofNat (2 * N)) ds (.int (0 : Int32))) (hN : N ≤ 11) (hj : j < N) (hd : ds.length = 2 * N) (f4_ : n0 ≤ t) (f5_ : Old Z n0 h0) (sA : Sta Z Z.heap "java/lang/StringUTF16" "$assertionsDisabled" "Z" (.int (1 : Int32))) (sH : Sta Z Z.heap "java/lang/StringUTF16" "HI_BYTE_SHIFT" "I" (.int (0 : Int32))) (sL : Sta Z Z.heap "java/lang/StringUTF16" "LO_BYTE_SHIFT" "I" (.int (8 : Int32))) :
    own_Met l (⟨"java/lang/StringUTF16", "putChar", "([BII)V"⟩ : MethodName) jdk_52_method_4_code 3 none ws (rO 0 0 0 0) #[(.ref t), (.int (Int32.ofNat j)), (.int cv)] Z h0 (Q_rmPut Z j cv t kt N ds h0 n0) := by
 refine MetFree.of_bodySF (plainFor_of_name own_h17) hisR ?_
 intro p e s m args below meth c s₁ Bd hml0 hP hK
 obtain ⟨rfl, hZ, hh⟩ := hP
 have hx := Bd.exec
 have hby := Bd.bytes
 have hml : c.maxLocals = 3 := hml0
 have hown : s.vm.findClass "java/lang/StringUTF16" = some m.cls := findClass_of_methodNamed Bd.named
 have hnm := (name_of_methodNamed Bd.named Bd.method).1
 have X0 : Stand p l e (rO 0 0 0 0) s m #[(.ref t), (.int (Int32.ofNat j)), (.int cv)] below meth c s₁ [] 0 0 := Stand.of_body Bd
 have e0 : s₁.heap = h0 := by rw [← hh, Bd.state]; rfl
 have N0 := Fr.nil n0
 obtain ⟨B_, hB_⟩ : ∃ z, z = s₁.setTop (entryFrame m #[(.ref t), (.int (Int32.ofNat j)), (.int cv)] 3) := ⟨_, rfl⟩
 have k0 : own_K p e below (s₁.setTop (mkF m 0 #[.val (.ref t), .val (.int (Int32.ofNat j)), .val (.int cv)] [])) B_ := by rw [hB_]; exact fun t k => castTop (by clear k; first | (simp [entryFrame, mkF, argsToLocals, Value.category, maxLocals]; done) | rfl) k
 have K0 : Keep h0 h0 [t] := Keep.refl _ _
 obtain ⟨T21, X22, e23, st24⟩ := getS X0 hx hZ hown (host := "") (wT hw 101 rfl) Via.refl e0 (Sta.ext f5_.2 sA) (g := (mkF m 0 #[.val (.ref t), .val (.int (Int32.ofNat j)), .val (.int cv)] [])) rfl (hb hby own_h30)
 have k1 : own_J p e below T21 m 3 #[.val (.ref t), .val (.int (Int32.ofNat j)), .val (.int cv)] [(.int (1 : Int32))] B_ := fun t_ hh => k0 t_ (st24 t_ hh)
 clear st24
 have k2 : own_J p e below T21 m 32 #[.val (.ref t), .val (.int ((Int32.ofNat j) <<< ((1 : Int32) &&& 31))), .val (.int cv)] [] B_ := fun t_ hh => k1 t_ (by
  refine XS.ifYes X22.here hx rfl (pc0 := 3) (pc' := 28) rfl (hb hby own_h31) rfl (by decide) (by decide) (by decide) ?_
  refine XS.iloadN X22.here hx rfl (hb hby own_h32) rfl ?_
  refine XS.iconst X22.here hx rfl (hb hby own_h33) ?_
  refine XS.ishl X22.here hx rfl (hb hby own_h34) rfl ?_
  refine XS.istoreN X22.here hx rfl (hb hby own_h35) rfl (l' := #[.val (.ref t), .val (.int ((Int32.ofNat j) <<< ((1 : Int32) &&& 31))), .val (.int cv)]) rfl ?_
  exact hh)
 clear k1
 have k3 : own_J p e below T21 m 32 #[.val (.ref t), .val (.int (Int32.ofNat (2 * j))), .val (.int cv)] [] B_ := by have q := k2; rw [own_shl1 (by omega)] at q; exact q
 have k4 : own_J p e below T21 m 37 #[.val (.ref t), .val (.int ((Int32.ofNat (2 * j)) + (1 : Int32))), .val (.int cv)] [(.int (Int32.ofNat (2 * j))), (.ref t)] B_ := fun t_ hh => k3 t_ (by
  refine XS.aloadN X22.here hx rfl (hb hby own_h36) rfl rfl ?_
  refine XS.iloadN X22.here hx rfl (hb hby own_h37) rfl ?_
  refine XS.iinc X22.here hx rfl (hb hby own_h38) rfl (l' := #[.val (.ref t), .val (.int ((Int32.ofNat (2 * j)) + (1 : Int32))), .val (.int cv)]) rfl ?_
  exact hh)
 clear k3
 have k5 : own_J p e below T21 m 37 #[.val (.ref t), .val (.int (Int32.ofNat (2 * j + 1))), .val (.int cv)] [(.int (Int32.ofNat (2 * j))), (.ref t)] B_ := by have q := k4; rw [own_step32 (by omega)] at q; exact q
 have k6 : own_J p e below T21 m 38 #[.val (.ref t), .val (.int (Int32.ofNat (2 * j + 1))), .val (.int cv)] [(.int cv), (.int (Int32.ofNat (2 * j))), (.ref t)] B_ := fun t_ hh => k5 t_ (by
  refine XS.iloadN X22.here hx rfl (hb hby own_h39) rfl ?_
  exact hh)
 clear k5
 obtain ⟨T25, X26, e27, st28⟩ := getS X22 hx hZ hown (host := "") (wT hw 102 rfl) Via.refl e23 (Sta.ext f5_.2 sH) (g := (mkF m 38 #[.val (.ref t), .val (.int (Int32.ofNat (2 * j + 1))), .val (.int cv)] [(.int cv), (.int (Int32.ofNat (2 * j))), (.ref t)])) rfl (hb hby own_h40)
 have k7 : own_J p e below T25 m 41 #[.val (.ref t), .val (.int (Int32.ofNat (2 * j + 1))), .val (.int cv)] [(.int (0 : Int32)), (.int cv), (.int (Int32.ofNat (2 * j))), (.ref t)] B_ := fun t_ hh => k6 t_ (st28 t_ hh)
 clear k6 st28 X22 e23
 have k8 : own_J p e below T25 m 43 #[.val (.ref t), .val (.int (Int32.ofNat (2 * j + 1))), .val (.int cv)] [(.int ((cv >>> ((0 : Int32) &&& 31)).toInt8.toInt32)), (.int (Int32.ofNat (2 * j))), (.ref t)] B_ := fun t_ hh => k7 t_ (by
  refine XS.ishr X26.here hx rfl (hb hby own_h41) rfl ?_
  refine XS.i2b X26.here hx rfl (hb hby own_h42) rfl ?_
  exact hh)
 clear k7
 obtain ⟨cl29, Ar30, q31, S32, Ng33, H34, Gf35⟩ := id f0_
 have hin36 := inb_of (j := (Int32.ofNat (2 * j))) S32 ⟨(own_nneg (by omega)), ((own_lt32 (by omega) (by omega)).mpr (by omega))⟩
 obtain ⟨T37, h38, X39, e40, W41, st42⟩ := stB X26 hx hZ e27 Ar30 (j := (Int32.ofNat (2 * j))) hin36 (g := (mkF m 43 #[.val (.ref t), .val (.int (Int32.ofNat (2 * j + 1))), .val (.int cv)] [(.int ((cv >>> ((0 : Int32) &&& 31)).toInt8.toInt32)), (.int (Int32.ofNat (2 * j))), (.ref t)])) rfl rfl (hb hby own_h43)
 have N43 := Fr.snoc X39 N0 f4_
 have K44 : Keep h0 h38 [t] := Keep.of_wr W41
 have V45 : Arv Z h38 t kt .byte (Int32.ofNat (2 * N)) (List.set ds (2 * j) (.int (((cv >>> ((0 : Int32) &&& 31)).toInt8.toInt32).toInt8.toInt32))) (.int (0 : Int32)) := Arv.set Ar30 q31 S32 Ng33 H34 Gf35 (fits_nar_byte _) W41 (2 * j) (own_natC (by omega)) (by rw [hd]; omega)
 have k9 : own_J p e below T37 m 44 #[.val (.ref t), .val (.int (Int32.ofNat (2 * j + 1))), .val (.int cv)] [] B_ := fun t_ hh => k8 t_ (st42 t_ hh)
 clear k8 st42 X26 e27 cl29 Ar30 q31 S32 Ng33 H34 Gf35 hin36 W41
 have k10 : own_J p e below T37 m 47 #[.val (.ref t), .val (.int (Int32.ofNat (2 * j + 1))), .val (.int cv)] [(.int cv), (.int (Int32.ofNat (2 * j + 1))), (.ref t)] B_ := fun t_ hh => k9 t_ (by
  refine XS.aloadN X39.here hx rfl (hb hby own_h44) rfl rfl ?_
  refine XS.iloadN X39.here hx rfl (hb hby own_h45) rfl ?_
  refine XS.iloadN X39.here hx rfl (hb hby own_h46) rfl ?_
  exact hh)
 clear k9
 have Z46 : n0 ≤ h38.size := Nat.le_trans Z0 K44.1
 have O47 := f5_.keep K44 (allS f4_ all0)
 have P48 : Keep h0 h38 [t] := K0.trans K44 (allS (P := fun x => x ∈ [t] ∨ h0.size ≤ x) (Or.inl (List.mem_of_getElem? (i := 0) rfl)) all0)
 obtain ⟨T49, X50, e51, st52⟩ := getS X39 hx hZ hown (host := "") (wT hw 103 rfl) Via.refl e40 (Sta.ext O47.2 sL) (g := (mkF m 47 #[.val (.ref t), .val (.int (Int32.ofNat (2 * j + 1))), .val (.int cv)] [(.int cv), (.int (Int32.ofNat (2 * j + 1))), (.ref t)])) rfl (hb hby own_h47)
 have k11 : own_J p e below T49 m 50 #[.val (.ref t), .val (.int (Int32.ofNat (2 * j + 1))), .val (.int cv)] [(.int (8 : Int32)), (.int cv), (.int (Int32.ofNat (2 * j + 1))), (.ref t)] B_ := fun t_ hh => k10 t_ (st52 t_ hh)
 clear k10 st52 X39 e40
 have k12 : own_J p e below T49 m 52 #[.val (.ref t), .val (.int (Int32.ofNat (2 * j + 1))), .val (.int cv)] [(.int ((cv >>> ((8 : Int32) &&& 31)).toInt8.toInt32)), (.int (Int32.ofNat (2 * j + 1))), (.ref t)] B_ := fun t_ hh => k11 t_ (by
  refine XS.ishr X50.here hx rfl (hb hby own_h48) rfl ?_
  refine XS.i2b X50.here hx rfl (hb hby own_h49) rfl ?_
  exact hh)
 clear k11
 obtain ⟨cl53, Ar54, q55, S56, Ng57, H58, Gf59⟩ := id V45
 have hin60 := inb_of (j := (Int32.ofNat (2 * j + 1))) S56 ⟨(own_nneg (by omega)), ((own_lt32 (by omega) (by omega)).mpr (by omega))⟩
 obtain ⟨T61, h62, X63, e64, W65, st66⟩ := stB X50 hx hZ e51 Ar54 (j := (Int32.ofNat (2 * j + 1))) hin60 (g := (mkF m 52 #[.val (.ref t), .val (.int (Int32.ofNat (2 * j + 1))), .val (.int cv)] [(.int ((cv >>> ((8 : Int32) &&& 31)).toInt8.toInt32)), (.int (Int32.ofNat (2 * j + 1))), (.ref t)])) rfl rfl (hb hby own_h50)
 have N67 := Fr.snoc X63 N43 f4_
 have K68 : Keep h38 h62 [t] := Keep.of_wr W65
 have V69 : Arv Z h62 t kt .byte (Int32.ofNat (2 * N)) (List.set (List.set ds (2 * j) (.int (((cv >>> ((0 : Int32) &&& 31)).toInt8.toInt32).toInt8.toInt32))) (2 * j + 1) (.int (((cv >>> ((8 : Int32) &&& 31)).toInt8.toInt32).toInt8.toInt32))) (.int (0 : Int32)) := Arv.set Ar54 q55 S56 Ng57 H58 Gf59 (fits_nar_byte _) W65 (2 * j + 1) (own_natC (by omega)) (by rw [List.length_set, hd]; omega)
 have k13 : own_J p e below T61 m 53 #[.val (.ref t), .val (.int (Int32.ofNat (2 * j + 1))), .val (.int cv)] [] B_ := fun t_ hh => k12 t_ (st66 t_ hh)
 clear k12 st66 X50 e51 cl53 Ar54 q55 S56 Ng57 H58 Gf59 hin60 W65 V45 N43
 have Z70 : n0 ≤ h62.size := Nat.le_trans Z46 K68.1
 have O71 := O47.keep K68 (allS f4_ all0)
 have P72 : Keep h0 h62 [t] := P48.trans K68 (allS (P := fun x => x ∈ [t] ∨ h0.size ≤ x) (Or.inl (List.mem_of_getElem? (i := 0) rfl)) all0)
 obtain ⟨fs, hr, hrun, hended, hW, hsame⟩ := X63.leave (v := none) (fun _ => rfl)
 refine ⟨_, _, (own_from hB_ (k13 _ (X63.returnOut hx Bd.returns (hb hby own_h51) hr))), hrun, hended, _, _, rfl, ?_, ⟨_, rfl⟩, hW, hsame.mono (own_l rfl) (own_l rfl)⟩
 show Q_rmPut Z j cv t kt N ds h0 n0 _ T61.heap _
 rw [e64]
 exact ⟨rfl, N67, P72, V69, trivial⟩
def Q_rmGch (Z : State) (j : Nat) (cv : Int32) (t : Addr) (kt : ClassId) (N : Nat) (ds : List Value) (h0 : Heap) (n0 : Nat) (v : Option Value) (h : Heap) (L : List Loc) : Prop := v = some (.int cv) ∧ Fr n0 L ∧ h = h0
theorem own_h52 : decode jdk_52_method_5_code 0 = .ok (.getstatic 44, 3) := by decide +kernel
theorem own_h53 : decode jdk_52_method_5_code 3 = .ok (.ifCond .ne 25, 3) := by decide +kernel
theorem own_h54 : decode jdk_52_method_5_code 28 = .ok (.iload_n 1, 1) := by decide +kernel
theorem own_h55 : decode jdk_52_method_5_code 29 = .ok (.iconst 1, 1) := by decide +kernel
theorem own_h56 : decode jdk_52_method_5_code 30 = .ok (.ishl, 1) := by decide +kernel
theorem own_h57 : decode jdk_52_method_5_code 31 = .ok (.istore_n 1, 1) := by decide +kernel
theorem own_h58 : decode jdk_52_method_5_code 32 = .ok (.aload_n 0, 1) := by decide +kernel
theorem own_h59 : decode jdk_52_method_5_code 33 = .ok (.iload_n 1, 1) := by decide +kernel
theorem own_h60 : decode jdk_52_method_5_code 34 = .ok (.iinc 1 1, 3) := by decide +kernel
theorem own_h61 : decode jdk_52_method_5_code 37 = .ok (.baload, 1) := by decide +kernel
theorem own_h62 : decode jdk_52_method_5_code 38 = .ok (.sipush 255, 3) := by decide +kernel
theorem own_h63 : decode jdk_52_method_5_code 41 = .ok (.iand, 1) := by decide +kernel
theorem own_h64 : decode jdk_52_method_5_code 42 = .ok (.getstatic 59, 3) := by decide +kernel
theorem own_h65 : decode jdk_52_method_5_code 45 = .ok (.ishl, 1) := by decide +kernel
theorem own_h66 : decode jdk_52_method_5_code 46 = .ok (.aload_n 0, 1) := by decide +kernel
theorem own_h67 : decode jdk_52_method_5_code 47 = .ok (.iload_n 1, 1) := by decide +kernel
theorem own_h68 : decode jdk_52_method_5_code 48 = .ok (.baload, 1) := by decide +kernel
theorem own_h69 : decode jdk_52_method_5_code 49 = .ok (.sipush 255, 3) := by decide +kernel
theorem own_h70 : decode jdk_52_method_5_code 52 = .ok (.iand, 1) := by decide +kernel
theorem own_h71 : decode jdk_52_method_5_code 53 = .ok (.getstatic 63, 3) := by decide +kernel
theorem own_h72 : decode jdk_52_method_5_code 56 = .ok (.ishl, 1) := by decide +kernel
theorem own_h73 : decode jdk_52_method_5_code 57 = .ok (.ior, 1) := by decide +kernel
theorem own_h74 : decode jdk_52_method_5_code 58 = .ok (.i2c, 1) := by decide +kernel
theorem own_h75 : decode jdk_52_method_5_code 59 = .ok (.ireturn, 1) := by decide +kernel
theorem rmGch (l : Launch) (Z : State) (a0 : Array Value) (hw : ∀ d ∈ tables_1, d.before a0 Z = true) (ws : List Jvm.Cond) (j : Nat) (cv : Int32) (t : Addr) (kt : ClassId) (N : Nat) (ds : List Value) (h0 : Heap) (n0 : Nat) (Z0 : n0 ≤ h0.size) (f0_ : Arv Z h0 t kt .byte (Int32.ofNat (2 * N)) ds (.int (0 : Int32))) (hN : N ≤ 11) (hj : j < N) (f3_ : Old Z n0 h0) (hlo : ds.getD (2 * j) (.int 0) = .int ((own_lo cv).toInt8.toInt32)) (hhi : ds.getD (2 * j + 1) (.int 0) = .int ((own_hi cv).toInt8.toInt32)) (hq0 : 0 ≤ cv.toInt) (hq1 : cv.toInt < 65536) (sA : Sta Z Z.heap "java/lang/StringUTF16" "$assertionsDisabled" "Z" (.int (1 : Int32))) (sH : Sta Z Z.heap "java/lang/StringUTF16" "HI_BYTE_SHIFT" "I" (.int (0 : Int32))) (sL : Sta Z Z.heap "java/lang/StringUTF16" "LO_BYTE_SHIFT" "I" (.int (8 : Int32))) :
    own_Met l (⟨"java/lang/StringUTF16", "getChar", "([BI)C"⟩ : MethodName) jdk_52_method_5_code 2 (some .char) ws (rO 0 0 0 0) #[(.ref t), (.int (Int32.ofNat j))] Z h0 (Q_rmGch Z j cv t kt N ds h0 n0) := by
 refine MetFree.of_bodySF (plainFor_of_name own_h17) hisR ?_
 intro p e s m args below meth c s₁ Bd hml0 hP hK
 obtain ⟨rfl, hZ, hh⟩ := hP
 have hx := Bd.exec
 have hby := Bd.bytes
 have hml : c.maxLocals = 2 := hml0
 have hown : s.vm.findClass "java/lang/StringUTF16" = some m.cls := findClass_of_methodNamed Bd.named
 have hnm := (name_of_methodNamed Bd.named Bd.method).1
 have X0 : Stand p l e (rO 0 0 0 0) s m #[(.ref t), (.int (Int32.ofNat j))] below meth c s₁ [] 0 0 := Stand.of_body Bd
 have e0 : s₁.heap = h0 := by rw [← hh, Bd.state]; rfl
 have N0 := Fr.nil n0
 obtain ⟨B_, hB_⟩ : ∃ z, z = s₁.setTop (entryFrame m #[(.ref t), (.int (Int32.ofNat j))] 2) := ⟨_, rfl⟩
 have k0 : own_K p e below (s₁.setTop (mkF m 0 #[.val (.ref t), .val (.int (Int32.ofNat j))] [])) B_ := by rw [hB_]; exact fun t k => castTop (by clear k; first | (simp [entryFrame, mkF, argsToLocals, Value.category, maxLocals]; done) | rfl) k
 obtain ⟨T21, X22, e23, st24⟩ := getS X0 hx hZ hown (host := "") (wT hw 101 rfl) Via.refl e0 (Sta.ext f3_.2 sA) (g := (mkF m 0 #[.val (.ref t), .val (.int (Int32.ofNat j))] [])) rfl (hb hby own_h52)
 have k1 : own_J p e below T21 m 3 #[.val (.ref t), .val (.int (Int32.ofNat j))] [(.int (1 : Int32))] B_ := fun t_ hh => k0 t_ (st24 t_ hh)
 clear st24
 have k2 : own_J p e below T21 m 32 #[.val (.ref t), .val (.int ((Int32.ofNat j) <<< ((1 : Int32) &&& 31)))] [] B_ := fun t_ hh => k1 t_ (by
  refine XS.ifYes X22.here hx rfl (pc0 := 3) (pc' := 28) rfl (hb hby own_h53) rfl (by decide) (by decide) (by decide) ?_
  refine XS.iloadN X22.here hx rfl (hb hby own_h54) rfl ?_
  refine XS.iconst X22.here hx rfl (hb hby own_h55) ?_
  refine XS.ishl X22.here hx rfl (hb hby own_h56) rfl ?_
  refine XS.istoreN X22.here hx rfl (hb hby own_h57) rfl (l' := #[.val (.ref t), .val (.int ((Int32.ofNat j) <<< ((1 : Int32) &&& 31)))]) rfl ?_
  exact hh)
 clear k1
 have k3 : own_J p e below T21 m 32 #[.val (.ref t), .val (.int (Int32.ofNat (2 * j)))] [] B_ := by have q := k2; rw [own_shl1 (by omega)] at q; exact q
 have k4 : own_J p e below T21 m 37 #[.val (.ref t), .val (.int ((Int32.ofNat (2 * j)) + (1 : Int32)))] [(.int (Int32.ofNat (2 * j))), (.ref t)] B_ := fun t_ hh => k3 t_ (by
  refine XS.aloadN X22.here hx rfl (hb hby own_h58) rfl rfl ?_
  refine XS.iloadN X22.here hx rfl (hb hby own_h59) rfl ?_
  refine XS.iinc X22.here hx rfl (hb hby own_h60) rfl (l' := #[.val (.ref t), .val (.int ((Int32.ofNat (2 * j)) + (1 : Int32)))]) rfl ?_
  exact hh)
 clear k3
 have k5 : own_J p e below T21 m 37 #[.val (.ref t), .val (.int (Int32.ofNat (2 * j + 1)))] [(.int (Int32.ofNat (2 * j))), (.ref t)] B_ := by have q := k4; rw [own_step32 (by omega)] at q; exact q
 have k6 : own_J p e below T21 m 42 #[.val (.ref t), .val (.int (Int32.ofNat (2 * j + 1)))] [(.int (((own_lo cv).toInt8.toInt32) &&& (255 : Int32)))] B_ := fun t_ hh => k5 t_ (by
  refine own_baloadBytes X22 hx hZ e23 f0_ (j := (Int32.ofNat (2 * j))) (v := (.int ((own_lo cv).toInt8.toInt32))) ⟨(own_nneg (by omega)), ((own_lt32 (by omega) (by omega)).mpr (by omega))⟩ (by rw [own_natC (by omega)]; exact hlo) (g := (mkF m 37 #[.val (.ref t), .val (.int (Int32.ofNat (2 * j + 1)))] [(.int (Int32.ofNat (2 * j))), (.ref t)])) rfl rfl (hb hby own_h61) _ ?_
  refine XS.sipush X22.here hx rfl (hb hby own_h62) ?_
  refine XS.iand X22.here hx rfl (hb hby own_h63) rfl ?_
  exact hh)
 clear k5
 obtain ⟨T25, X26, e27, st28⟩ := getS X22 hx hZ hown (host := "") (wT hw 102 rfl) Via.refl e23 (Sta.ext f3_.2 sH) (g := (mkF m 42 #[.val (.ref t), .val (.int (Int32.ofNat (2 * j + 1)))] [(.int (((own_lo cv).toInt8.toInt32) &&& (255 : Int32)))])) rfl (hb hby own_h64)
 have k7 : own_J p e below T25 m 45 #[.val (.ref t), .val (.int (Int32.ofNat (2 * j + 1)))] [(.int (0 : Int32)), (.int (((own_lo cv).toInt8.toInt32) &&& (255 : Int32)))] B_ := fun t_ hh => k6 t_ (st28 t_ hh)
 clear k6 st28 X22 e23
 have k8 : own_J p e below T25 m 53 #[.val (.ref t), .val (.int (Int32.ofNat (2 * j + 1)))] [(.int (((own_hi cv).toInt8.toInt32) &&& (255 : Int32))), (.int ((((own_lo cv).toInt8.toInt32) &&& (255 : Int32)) <<< ((0 : Int32) &&& 31)))] B_ := fun t_ hh => k7 t_ (by
  refine XS.ishl X26.here hx rfl (hb hby own_h65) rfl ?_
  refine XS.aloadN X26.here hx rfl (hb hby own_h66) rfl rfl ?_
  refine XS.iloadN X26.here hx rfl (hb hby own_h67) rfl ?_
  refine own_baloadBytes X26 hx hZ e27 f0_ (j := (Int32.ofNat (2 * j + 1))) (v := (.int ((own_hi cv).toInt8.toInt32))) ⟨(own_nneg (by omega)), ((own_lt32 (by omega) (by omega)).mpr (by omega))⟩ (by rw [own_natC (by omega)]; exact hhi) (g := (mkF m 48 #[.val (.ref t), .val (.int (Int32.ofNat (2 * j + 1)))] [(.int (Int32.ofNat (2 * j + 1))), (.ref t), (.int ((((own_lo cv).toInt8.toInt32) &&& (255 : Int32)) <<< ((0 : Int32) &&& 31)))])) rfl rfl (hb hby own_h68) _ ?_
  refine XS.sipush X26.here hx rfl (hb hby own_h69) ?_
  refine XS.iand X26.here hx rfl (hb hby own_h70) rfl ?_
  exact hh)
 clear k7
 obtain ⟨T29, X30, e31, st32⟩ := getS X26 hx hZ hown (host := "") (wT hw 103 rfl) Via.refl e27 (Sta.ext f3_.2 sL) (g := (mkF m 53 #[.val (.ref t), .val (.int (Int32.ofNat (2 * j + 1)))] [(.int (((own_hi cv).toInt8.toInt32) &&& (255 : Int32))), (.int ((((own_lo cv).toInt8.toInt32) &&& (255 : Int32)) <<< ((0 : Int32) &&& 31)))])) rfl (hb hby own_h71)
 have k9 : own_J p e below T29 m 56 #[.val (.ref t), .val (.int (Int32.ofNat (2 * j + 1)))] [(.int (8 : Int32)), (.int (((own_hi cv).toInt8.toInt32) &&& (255 : Int32))), (.int ((((own_lo cv).toInt8.toInt32) &&& (255 : Int32)) <<< ((0 : Int32) &&& 31)))] B_ := fun t_ hh => k8 t_ (st32 t_ hh)
 clear k8 st32 X26 e27
 have k10 : own_J p e below T29 m 59 #[.val (.ref t), .val (.int (Int32.ofNat (2 * j + 1)))] [(.int ((((((own_lo cv).toInt8.toInt32) &&& (255 : Int32)) <<< ((0 : Int32) &&& 31)) ||| ((((own_hi cv).toInt8.toInt32) &&& (255 : Int32)) <<< ((8 : Int32) &&& 31))).toUInt32.toUInt16.toUInt32.toInt32))] B_ := fun t_ hh => k9 t_ (by
  refine XS.ishl X30.here hx rfl (hb hby own_h72) rfl ?_
  refine XS.ior X30.here hx rfl (hb hby own_h73) rfl ?_
  refine XS.i2c X30.here hx rfl (hb hby own_h74) rfl ?_
  exact hh)
 clear k9
 obtain ⟨fs, hr, hrun, hended, hW, hsame⟩ := X30.leave (v := some (.int (nar .char ((((((own_lo cv).toInt8.toInt32) &&& (255 : Int32)) <<< ((0 : Int32) &&& 31)) ||| ((((own_hi cv).toInt8.toInt32) &&& (255 : Int32)) <<< ((8 : Int32) &&& 31))).toUInt32.toUInt16.toUInt32.toInt32)))) (fun h => by rw [Bd.returns] at h; cases h)
 refine ⟨_, _, (own_from hB_ (k10 _ (retN X30 hx (t := .char) Bd.returns (by simp) (hb hby own_h75) hr))), hrun, hended, _, _, rfl, ?_, ⟨_, rfl⟩, hW, hsame.mono (own_l rfl) (own_l rfl)⟩
 show Q_rmGch Z j cv t kt N ds h0 n0 _ T29.heap _
 rw [e31]
 exact ⟨(by show some (Value.int (own_join ((own_lo cv).toInt8.toInt32) ((own_hi cv).toInt8.toInt32))) = _; rw [own_join_eq hq0 hq1]), N0, rfl⟩
def Q_rmChu (Z : State) (j : Nat) (cv : Int32) (t : Addr) (kt : ClassId) (N : Nat) (ds : List Value) (h0 : Heap) (n0 : Nat) (v : Option Value) (h : Heap) (L : List Loc) : Prop := v = some (.int cv) ∧ Fr n0 L ∧ h = h0
theorem own_h76 : decode jdk_52_method_83_code 0 = .ok (.iload_n 1, 1) := by decide +kernel
theorem own_h77 : decode jdk_52_method_83_code 1 = .ok (.aload_n 0, 1) := by decide +kernel
theorem own_h78 : decode jdk_52_method_83_code 2 = .ok (.invokestatic 67, 3) := by decide +kernel
theorem own_h79 : parseMethodDescriptor "(I[B)V" = some ⟨[.int, .array .byte], none⟩ := by decide +kernel
theorem own_h80 : decode jdk_52_method_83_code 5 = .ok (.aload_n 0, 1) := by decide +kernel
theorem own_h81 : decode jdk_52_method_83_code 6 = .ok (.iload_n 1, 1) := by decide +kernel
theorem own_h82 : decode jdk_52_method_83_code 7 = .ok (.invokestatic 71, 3) := by decide +kernel
theorem own_h83 : parseMethodDescriptor "([BI)C" = some ⟨[.array .byte, .int], some .char⟩ := by decide +kernel
theorem own_h84 : decode jdk_52_method_83_code 10 = .ok (.ireturn, 1) := by decide +kernel
theorem rmChu (l : Launch) (Z : State) (a0 : Array Value) (hw : ∀ d ∈ tables_1, d.before a0 Z = true) (ws : List Jvm.Cond) (j : Nat) (cv : Int32) (t : Addr) (kt : ClassId) (N : Nat) (ds : List Value) (h0 : Heap) (n0 : Nat) (Z0 : n0 ≤ h0.size) (f0_ : Arv Z h0 t kt .byte (Int32.ofNat (2 * N)) ds (.int (0 : Int32))) (hN : N ≤ 11) (hj : j < N) (f3_ : Old Z n0 h0) (hlo : ds.getD (2 * j) (.int 0) = .int ((own_lo cv).toInt8.toInt32)) (hhi : ds.getD (2 * j + 1) (.int 0) = .int ((own_hi cv).toInt8.toInt32)) (hq0 : 0 ≤ cv.toInt) (hq1 : cv.toInt < 65536) (sA : Sta Z Z.heap "java/lang/StringUTF16" "$assertionsDisabled" "Z" (.int (1 : Int32))) (sH : Sta Z Z.heap "java/lang/StringUTF16" "HI_BYTE_SHIFT" "I" (.int (0 : Int32))) (sL : Sta Z Z.heap "java/lang/StringUTF16" "LO_BYTE_SHIFT" "I" (.int (8 : Int32))) (gv : Value) (sG : Sta Z Z.heap "jdk/internal/util/Preconditions" "SIOOBE_FORMATTER" "Ljava/util/function/BiFunction;" gv) (hg : gv.isRef = true) :
    own_Met l (⟨"java/lang/StringUTF16", "charAt", "([BI)C"⟩ : MethodName) jdk_52_method_83_code 2 (some .char) ws (rO 3 0 0 40) #[(.ref t), (.int (Int32.ofNat j))] Z h0 (Q_rmChu Z j cv t kt N ds h0 n0) := by
 refine MetFree.of_bodySF (plainFor_of_name own_h17) hisR ?_
 intro p e s m args below meth c s₁ Bd hml0 hP hK
 obtain ⟨rfl, hZ, hh⟩ := hP
 have hx := Bd.exec
 have hby := Bd.bytes
 have hml : c.maxLocals = 2 := hml0
 have hown : s.vm.findClass "java/lang/StringUTF16" = some m.cls := findClass_of_methodNamed Bd.named
 have hnm := (name_of_methodNamed Bd.named Bd.method).1
 have X0 : Stand p l e (rO 3 0 0 40) s m #[(.ref t), (.int (Int32.ofNat j))] below meth c s₁ [] 0 0 := Stand.of_body Bd
 have e0 : s₁.heap = h0 := by rw [← hh, Bd.state]; rfl
 have N0 := Fr.nil n0
 obtain ⟨B_, hB_⟩ : ∃ z, z = s₁.setTop (entryFrame m #[(.ref t), (.int (Int32.ofNat j))] 2) := ⟨_, rfl⟩
 have k0 : own_K p e below (s₁.setTop (mkF m 0 #[.val (.ref t), .val (.int (Int32.ofNat j))] [])) B_ := by rw [hB_]; exact fun t k => castTop (by clear k; first | (simp [entryFrame, mkF, argsToLocals, Value.category, maxLocals]; done) | rfl) k
 have k1 : own_J p e below s₁ m 2 #[.val (.ref t), .val (.int (Int32.ofNat j))] [(.ref t), (.int (Int32.ofNat j))] B_ := fun t_ hh => k0 t_ (by
  refine XS.iloadN X0.here hx rfl (hb hby own_h76) rfl ?_
  refine XS.aloadN X0.here hx rfl (hb hby own_h77) rfl rfl ?_
  exact hh)
 obtain ⟨_, _, ⟨T21, L22, k_23, n_24⟩, -, X25, ⟨Lc26, hQ27, l_28, y_29, z_30⟩, st31⟩ := Jvm.LawKit.callS X0 hx (y := (⟨"java/lang/StringUTF16", "checkIndex", "(I[B)V"⟩ : MethodName)) hown (mvT hZ (wT hw 110 rfl)) (mvT hZ (wT hw 111 rfl)) (mvT hZ (wT hw 39 rfl)) (mvT hZ (wT hw 112 rfl)) (by decide) (backOf (W := 0) (rmCk16 l Z a0 hw [] j t kt N ds h0 n0 Z0 f0_ hN hj f3_ gv sG hg) hZ (wT hw 112 rfl) (wT hw 39 rfl) (by decide) (by decide)) (g := (mkF m 2 #[.val (.ref t), .val (.int (Int32.ofNat j))] [(.ref t), (.int (Int32.ofNat j))])) rfl (by rw [hml]; rfl) (argsL := [(.int (Int32.ofNat j)), (.ref t)]) (rest := []) (lenOf own_h79 rfl) rfl (by show 2 * 0 + _ ≤ _; exact Nat.le_of_eq rfl) (hb hby own_h78) (fun _ _ => ⟨rfl, e0, own_l rfl, own_l rfl⟩)
 dsimp only [Pt.U, Pt.locs, Pt.cells, Pt.slots] at X25 l_28 y_29 z_30 st31 hQ27
 replace l_28 := l_28.symm
 subst l_28 y_29 z_30
 obtain ⟨rfl, N32, e33⟩ := hQ27
 have N34 := Fr.app N0 N32
 have k2 : own_J p e below T21 m 5 #[.val (.ref t), .val (.int (Int32.ofNat j))] [] B_ := fun t_ hh => k1 t_ (st31 t_ hh)
 clear k1 st31
 have k3 : own_J p e below T21 m 7 #[.val (.ref t), .val (.int (Int32.ofNat j))] [(.int (Int32.ofNat j)), (.ref t)] B_ := fun t_ hh => k2 t_ (by
  refine XS.aloadN X25.here hx rfl (hb hby own_h80) rfl rfl ?_
  refine XS.iloadN X25.here hx rfl (hb hby own_h81) rfl ?_
  exact hh)
 clear k2
 obtain ⟨_, _, ⟨T35, L36, k_37, n_38⟩, -, X39, ⟨Lc40, hQ41, l_42, y_43, z_44⟩, st45⟩ := Jvm.LawKit.callS X25 hx (y := (⟨"java/lang/StringUTF16", "getChar", "([BI)C"⟩ : MethodName)) hown (mvT hZ (wT hw 104 rfl)) (mvT hZ (wT hw 105 rfl)) (mvT hZ (wT hw 39 rfl)) (mvT hZ (wT hw 106 rfl)) (by decide) (backOf (W := 0) (rmGch l Z a0 hw [] j cv t kt N ds h0 n0 Z0 f0_ hN hj f3_ hlo hhi hq0 hq1 sA sH sL) hZ (wT hw 106 rfl) (wT hw 39 rfl) (by decide) (by decide)) (g := (mkF m 7 #[.val (.ref t), .val (.int (Int32.ofNat j))] [(.int (Int32.ofNat j)), (.ref t)])) rfl (by rw [hml]; rfl) (argsL := [(.ref t), (.int (Int32.ofNat j))]) (rest := []) (lenOf own_h83 rfl) rfl (by show 2 * 0 + _ ≤ _; exact Nat.le_of_eq rfl) (hb hby own_h82) (fun _ _ => ⟨rfl, e33, own_l rfl, own_l rfl⟩)
 dsimp only [Pt.U, Pt.locs, Pt.cells, Pt.slots] at X39 l_42 y_43 z_44 st45 hQ41
 replace l_42 := l_42.symm
 subst l_42 y_43 z_44
 obtain ⟨rfl, N46, e47⟩ := hQ41
 have N48 := Fr.app N34 N46
 have k4 : own_J p e below T35 m 10 #[.val (.ref t), .val (.int (Int32.ofNat j))] [(.int cv)] B_ := fun t_ hh => k3 t_ (st45 t_ hh)
 clear k3 st45 X25 e33
 obtain ⟨fs, hr, hrun, hended, hW, hsame⟩ := X39.leave (v := some (.int (nar .char cv))) (fun h => by rw [Bd.returns] at h; cases h)
 refine ⟨_, _, (own_from hB_ (k4 _ (retN X39 hx (t := .char) Bd.returns (by simp) (hb hby own_h84) hr))), hrun, hended, _, _, rfl, ?_, ⟨_, rfl⟩, hW, hsame.mono (own_l rfl) (own_l rfl)⟩
 show Q_rmChu Z j cv t kt N ds h0 n0 _ T35.heap _
 rw [e47]
 exact ⟨(by rw [own_nar16 hq0 hq1]), N48, rfl⟩
def Q_rmIl (Z : State) (a : Addr) (h0 : Heap) (n0 : Nat) (v : Option Value) (h : Heap) (L : List Loc) : Prop := v = some (.int (0 : Int32)) ∧ Fr n0 L ∧ h = h0
theorem own_h85 : decode jdk_42_method_154_code 0 = .ok (.getstatic 38, 3) := by decide +kernel
theorem own_h86 : decode jdk_42_method_154_code 3 = .ok (.ifCond .eq 14, 3) := by decide +kernel
theorem own_h87 : decode jdk_42_method_154_code 6 = .ok (.aload_n 0, 1) := by decide +kernel
theorem own_h88 : decode jdk_42_method_154_code 7 = .ok (.getfield 15, 3) := by decide +kernel
theorem own_h89 : decode jdk_42_method_154_code 10 = .ok (.ifCond .ne 7, 3) := by decide +kernel
theorem own_h90 : decode jdk_42_method_154_code 17 = .ok (.iconst 0, 1) := by decide +kernel
theorem own_h91 : decode jdk_42_method_154_code 18 = .ok (.ireturn, 1) := by decide +kernel
theorem rmIl (l : Launch) (Z : State) (a0 : Array Value) (hw : ∀ d ∈ tables_1, d.before a0 Z = true) (ws : List Jvm.Cond) (a : Addr) (h0 : Heap) (n0 : Nat) (Z0 : n0 ≤ h0.size) (f0_ : Fld Z h0 a "java/lang/String" "coder" "B" (.int (1 : Int32))) (f1_ : Old Z n0 h0) (ci : Int32) (sC : Sta Z Z.heap "java/lang/String" "COMPACT_STRINGS" "Z" (.int ci)) (hc : ¬ ci = 0) :
    own_Met l (⟨"java/lang/String", "isLatin1", "()Z"⟩ : MethodName) jdk_42_method_154_code 1 (some .boolean) ws (rO 0 0 0 0) #[(.ref a)] Z h0 (Q_rmIl Z a h0 n0) := by
 refine MetFree.of_bodySF (plainFor_of_name own_h9) hisR ?_
 intro p e s m args below meth c s₁ Bd hml0 hP hK
 obtain ⟨rfl, hZ, hh⟩ := hP
 have hx := Bd.exec
 have hby := Bd.bytes
 have hml : c.maxLocals = 1 := hml0
 have hown : s.vm.findClass "java/lang/String" = some m.cls := findClass_of_methodNamed Bd.named
 have hnm := (name_of_methodNamed Bd.named Bd.method).1
 have X0 : Stand p l e (rO 0 0 0 0) s m #[(.ref a)] below meth c s₁ [] 0 0 := Stand.of_body Bd
 have e0 : s₁.heap = h0 := by rw [← hh, Bd.state]; rfl
 have N0 := Fr.nil n0
 obtain ⟨B_, hB_⟩ : ∃ z, z = s₁.setTop (entryFrame m #[(.ref a)] 1) := ⟨_, rfl⟩
 have k0 : own_K p e below (s₁.setTop (mkF m 0 #[.val (.ref a)] [])) B_ := by rw [hB_]; exact fun t k => castTop (by clear k; first | (simp [entryFrame, mkF, argsToLocals, Value.category, maxLocals]; done) | rfl) k
 obtain ⟨T21, X22, e23, st24⟩ := getS X0 hx hZ hown (host := "") (wT hw 36 rfl) Via.refl e0 (Sta.ext f1_.2 sC) (g := (mkF m 0 #[.val (.ref a)] [])) rfl (hb hby own_h85)
 have k1 : own_J p e below T21 m 3 #[.val (.ref a)] [(.int ci)] B_ := fun t_ hh => k0 t_ (st24 t_ hh)
 clear st24
 have k2 : own_J p e below T21 m 7 #[.val (.ref a)] [(.ref a)] B_ := fun t_ hh => k1 t_ (by
  refine XS.ifNo X22.here hx rfl (hb hby own_h86) rfl (own_ifF_eq hc) ?_
  refine XS.aloadN X22.here hx rfl (hb hby own_h87) rfl rfl ?_
  exact hh)
 clear k1
 obtain ⟨T25, X26, e27, st28⟩ := getF X22 hx hZ hown (host := "") (Or.inl (wT hw 48 rfl)) Via.refl e23 f0_ (g := (mkF m 7 #[.val (.ref a)] [(.ref a)])) rfl rfl (hb hby own_h88)
 have k3 : own_J p e below T25 m 10 #[.val (.ref a)] [(.int (1 : Int32))] B_ := fun t_ hh => k2 t_ (st28 t_ hh)
 clear k2 st28 X22 e23
 have k4 : own_J p e below T25 m 18 #[.val (.ref a)] [(.int (0 : Int32))] B_ := fun t_ hh => k3 t_ (by
  refine XS.ifYes X26.here hx rfl (pc0 := 10) (pc' := 17) rfl (hb hby own_h89) rfl (by decide) (by decide) (by decide) ?_
  refine XS.iconst X26.here hx rfl (hb hby own_h90) ?_
  exact hh)
 clear k3
 obtain ⟨fs, hr, hrun, hended, hW, hsame⟩ := X26.leave (v := some (.int (0 : Int32))) (fun h => by rw [Bd.returns] at h; cases h)
 refine ⟨_, _, (own_from hB_ (k4 _ (retN X26 hx (t := .boolean) Bd.returns (by simp) (hb hby own_h91) hr))), hrun, hended, _, _, rfl, ?_, ⟨_, rfl⟩, hW, hsame.mono (own_l rfl) (own_l rfl)⟩
 show Q_rmIl Z a h0 n0 _ T25.heap _
 rw [e27]
 exact ⟨rfl, N0, rfl⟩
def Q_rmCo (Z : State) (a : Addr) (h0 : Heap) (n0 : Nat) (v : Option Value) (h : Heap) (L : List Loc) : Prop := v = some (.int (1 : Int32)) ∧ Fr n0 L ∧ h = h0
theorem own_h92 : decode jdk_42_method_152_code 0 = .ok (.getstatic 38, 3) := by decide +kernel
theorem own_h93 : decode jdk_42_method_152_code 3 = .ok (.ifCond .eq 10, 3) := by decide +kernel
theorem own_h94 : decode jdk_42_method_152_code 6 = .ok (.aload_n 0, 1) := by decide +kernel
theorem own_h95 : decode jdk_42_method_152_code 7 = .ok (.getfield 15, 3) := by decide +kernel
theorem own_h96 : decode jdk_42_method_152_code 10 = .ok (.goto 4, 3) := by decide +kernel
theorem own_h97 : decode jdk_42_method_152_code 14 = .ok (.ireturn, 1) := by decide +kernel
theorem rmCo (l : Launch) (Z : State) (a0 : Array Value) (hw : ∀ d ∈ tables_1, d.before a0 Z = true) (ws : List Jvm.Cond) (a : Addr) (h0 : Heap) (n0 : Nat) (Z0 : n0 ≤ h0.size) (f0_ : Fld Z h0 a "java/lang/String" "coder" "B" (.int (1 : Int32))) (f1_ : Old Z n0 h0) (ci : Int32) (sC : Sta Z Z.heap "java/lang/String" "COMPACT_STRINGS" "Z" (.int ci)) (hc : ¬ ci = 0) :
    own_Met l (⟨"java/lang/String", "coder", "()B"⟩ : MethodName) jdk_42_method_152_code 1 (some .byte) ws (rO 0 0 0 0) #[(.ref a)] Z h0 (Q_rmCo Z a h0 n0) := by
 refine MetFree.of_bodySF (plainFor_of_name own_h9) hisR ?_
 intro p e s m args below meth c s₁ Bd hml0 hP hK
 obtain ⟨rfl, hZ, hh⟩ := hP
 have hx := Bd.exec
 have hby := Bd.bytes
 have hml : c.maxLocals = 1 := hml0
 have hown : s.vm.findClass "java/lang/String" = some m.cls := findClass_of_methodNamed Bd.named
 have hnm := (name_of_methodNamed Bd.named Bd.method).1
 have X0 : Stand p l e (rO 0 0 0 0) s m #[(.ref a)] below meth c s₁ [] 0 0 := Stand.of_body Bd
 have e0 : s₁.heap = h0 := by rw [← hh, Bd.state]; rfl
 have N0 := Fr.nil n0
 obtain ⟨B_, hB_⟩ : ∃ z, z = s₁.setTop (entryFrame m #[(.ref a)] 1) := ⟨_, rfl⟩
 have k0 : own_K p e below (s₁.setTop (mkF m 0 #[.val (.ref a)] [])) B_ := by rw [hB_]; exact fun t k => castTop (by clear k; first | (simp [entryFrame, mkF, argsToLocals, Value.category, maxLocals]; done) | rfl) k
 obtain ⟨T21, X22, e23, st24⟩ := getS X0 hx hZ hown (host := "") (wT hw 36 rfl) Via.refl e0 (Sta.ext f1_.2 sC) (g := (mkF m 0 #[.val (.ref a)] [])) rfl (hb hby own_h92)
 have k1 : own_J p e below T21 m 3 #[.val (.ref a)] [(.int ci)] B_ := fun t_ hh => k0 t_ (st24 t_ hh)
 clear st24
 have k2 : own_J p e below T21 m 7 #[.val (.ref a)] [(.ref a)] B_ := fun t_ hh => k1 t_ (by
  refine XS.ifNo X22.here hx rfl (hb hby own_h93) rfl (own_ifF_eq hc) ?_
  refine XS.aloadN X22.here hx rfl (hb hby own_h94) rfl rfl ?_
  exact hh)
 clear k1
 obtain ⟨T25, X26, e27, st28⟩ := getF X22 hx hZ hown (host := "") (Or.inl (wT hw 48 rfl)) Via.refl e23 f0_ (g := (mkF m 7 #[.val (.ref a)] [(.ref a)])) rfl rfl (hb hby own_h95)
 have k3 : own_J p e below T25 m 10 #[.val (.ref a)] [(.int (1 : Int32))] B_ := fun t_ hh => k2 t_ (st28 t_ hh)
 clear k2 st28 X22 e23
 have k4 : own_J p e below T25 m 14 #[.val (.ref a)] [(.int (1 : Int32))] B_ := fun t_ hh => k3 t_ (by
  refine XS.goto X26.here hx rfl (pc0 := 10) (pc' := 14) rfl (hb hby own_h96) (by decide) (by decide) ?_
  exact hh)
 clear k3
 obtain ⟨fs, hr, hrun, hended, hW, hsame⟩ := X26.leave (v := some (.int (1 : Int32))) (fun h => by rw [Bd.returns] at h; cases h)
 refine ⟨_, _, (own_from hB_ (k4 _ (retN X26 hx (t := .byte) Bd.returns (by simp) (hb hby own_h97) hr))), hrun, hended, _, _, rfl, ?_, ⟨_, rfl⟩, hW, hsame.mono (own_l rfl) (own_l rfl)⟩
 show Q_rmCo Z a h0 n0 _ T25.heap _
 rw [e27]
 exact ⟨rfl, N0, rfl⟩
def Q_rmChA (Z : State) (a : Addr) (j : Nat) (cv : Int32) (t : Addr) (kt : ClassId) (N : Nat) (ds : List Value) (h0 : Heap) (n0 : Nat) (v : Option Value) (h : Heap) (L : List Loc) : Prop := v = some (.int cv) ∧ Fr n0 L ∧ h = h0
theorem own_h98 : decode jdk_42_method_56_code 0 = .ok (.aload_n 0, 1) := by decide +kernel
theorem own_h99 : decode jdk_42_method_56_code 1 = .ok (.invokevirtual 492, 3) := by decide +kernel
theorem own_h100 : parseMethodDescriptor "()Z" = some ⟨[], some .boolean⟩ := by decide +kernel
theorem own_h101 : decode jdk_42_method_56_code 4 = .ok (.ifCond .eq 12, 3) := by decide +kernel
theorem own_h102 : decode jdk_42_method_56_code 16 = .ok (.aload_n 0, 1) := by decide +kernel
theorem own_h103 : decode jdk_42_method_56_code 17 = .ok (.getfield 9, 3) := by decide +kernel
theorem own_h104 : decode jdk_42_method_56_code 20 = .ok (.iload_n 1, 1) := by decide +kernel
theorem own_h105 : decode jdk_42_method_56_code 21 = .ok (.invokestatic 498, 3) := by decide +kernel
theorem own_h106 : decode jdk_42_method_56_code 24 = .ok (.ireturn, 1) := by decide +kernel
theorem rmChA (l : Launch) (Z : State) (a0 : Array Value) (hw : ∀ d ∈ tables_1, d.before a0 Z = true) (ws : List Jvm.Cond) (a : Addr) (j : Nat) (cv : Int32) (t : Addr) (kt : ClassId) (N : Nat) (ds : List Value) (h0 : Heap) (n0 : Nat) (Z0 : n0 ≤ h0.size) (f0_ : Exa Z h0 a "java/lang/String") (f1_ : Fld Z h0 a "java/lang/String" "value" "[B" (.ref t)) (f2_ : Fld Z h0 a "java/lang/String" "coder" "B" (.int (1 : Int32))) (f3_ : Arv Z h0 t kt .byte (Int32.ofNat (2 * N)) ds (.int (0 : Int32))) (hN : N ≤ 11) (hj : j < N) (f6_ : Old Z n0 h0) (hlo : ds.getD (2 * j) (.int 0) = .int ((own_lo cv).toInt8.toInt32)) (hhi : ds.getD (2 * j + 1) (.int 0) = .int ((own_hi cv).toInt8.toInt32)) (hq0 : 0 ≤ cv.toInt) (hq1 : cv.toInt < 65536) (sA : Sta Z Z.heap "java/lang/StringUTF16" "$assertionsDisabled" "Z" (.int (1 : Int32))) (sH : Sta Z Z.heap "java/lang/StringUTF16" "HI_BYTE_SHIFT" "I" (.int (0 : Int32))) (sL : Sta Z Z.heap "java/lang/StringUTF16" "LO_BYTE_SHIFT" "I" (.int (8 : Int32))) (gv : Value) (sG : Sta Z Z.heap "jdk/internal/util/Preconditions" "SIOOBE_FORMATTER" "Ljava/util/function/BiFunction;" gv) (hg : gv.isRef = true) (ci : Int32) (sC : Sta Z Z.heap "java/lang/String" "COMPACT_STRINGS" "Z" (.int ci)) (hc : ¬ ci = 0) :
    own_Met l (⟨"java/lang/String", "charAt", "(I)C"⟩ : MethodName) jdk_42_method_56_code 2 (some .char) ws (rO 4 0 0 53) #[(.ref a), (.int (Int32.ofNat j))] Z h0 (Q_rmChA Z a j cv t kt N ds h0 n0) := by
 refine MetFree.of_bodySF (plainFor_of_name own_h9) hisR ?_
 intro p e s m args below meth c s₁ Bd hml0 hP hK
 obtain ⟨rfl, hZ, hh⟩ := hP
 have hx := Bd.exec
 have hby := Bd.bytes
 have hml : c.maxLocals = 2 := hml0
 have hown : s.vm.findClass "java/lang/String" = some m.cls := findClass_of_methodNamed Bd.named
 have hnm := (name_of_methodNamed Bd.named Bd.method).1
 have X0 : Stand p l e (rO 4 0 0 53) s m #[(.ref a), (.int (Int32.ofNat j))] below meth c s₁ [] 0 0 := Stand.of_body Bd
 have e0 : s₁.heap = h0 := by rw [← hh, Bd.state]; rfl
 have N0 := Fr.nil n0
 obtain ⟨B_, hB_⟩ : ∃ z, z = s₁.setTop (entryFrame m #[(.ref a), (.int (Int32.ofNat j))] 2) := ⟨_, rfl⟩
 have k0 : own_K p e below (s₁.setTop (mkF m 0 #[.val (.ref a), .val (.int (Int32.ofNat j))] [])) B_ := by rw [hB_]; exact fun t k => castTop (by clear k; first | (simp [entryFrame, mkF, argsToLocals, Value.category, maxLocals]; done) | rfl) k
 have k1 : own_J p e below s₁ m 1 #[.val (.ref a), .val (.int (Int32.ofNat j))] [(.ref a)] B_ := fun t_ hh => k0 t_ (by
  refine XS.aloadN X0.here hx rfl (hb hby own_h98) rfl rfl ?_
  exact hh)
 obtain ⟨cq32, kq33, qa34, qb35, qc36⟩ := isOf hZ e0 f0_
 obtain ⟨_, _, ⟨T21, L22, k_23, n_24⟩, -, X25, ⟨Lc26, hQ27, l_28, y_29, z_30⟩, st31⟩ := X0.virtualBack hx (y := (⟨"java/lang/String", "isLatin1", "()Z"⟩ : MethodName)) (z := (⟨"java/lang/String", "isLatin1", "()Z"⟩ : MethodName)) hown (mvT hZ (wT hw 71 rfl)) (mvT hZ (wT hw 72 rfl)) (notFace_of_selects (args := #[]) (mvT hZ (wT hw 74 rfl))) (mvT hZ (wT hw 74 rfl)) (mvT hZ (wT hw 73 rfl)) (by decide) (backOf (W := 0) (rmIl l Z a0 hw [] a h0 n0 Z0 f2_ f6_ ci sC hc) hZ (wT hw 75 rfl) (wT hw 25 rfl) (by decide) (by decide)) qa34 qc36 (g := (mkF m 1 #[.val (.ref a), .val (.int (Int32.ofNat j))] [(.ref a)])) rfl (by rw [hml]; rfl) (Steps.refl _) (argsL := []) (rest := []) (lenOf own_h100 rfl) rfl (by show 2 * 0 + _ ≤ _; exact Nat.le_of_eq rfl) (hb hby own_h99) (fun _ _ => ⟨rfl, e0, own_l rfl, own_l rfl⟩)
 dsimp only [Pt.U, Pt.locs, Pt.cells, Pt.slots] at X25 l_28 y_29 z_30 st31 hQ27
 replace l_28 := l_28.symm
 subst l_28 y_29 z_30
 obtain ⟨rfl, N37, e38⟩ := hQ27
 have N39 := Fr.app N0 N37
 have k2 : own_J p e below T21 m 4 #[.val (.ref a), .val (.int (Int32.ofNat j))] [(.int (0 : Int32))] B_ := fun t_ hh => k1 t_ (st31.trans hh)
 clear k1 st31
 have k3 : own_J p e below T21 m 17 #[.val (.ref a), .val (.int (Int32.ofNat j))] [(.ref a)] B_ := fun t_ hh => k2 t_ (by
  refine XS.ifYes X25.here hx rfl (pc0 := 4) (pc' := 16) rfl (hb hby own_h101) rfl (by decide) (by decide) (by decide) ?_
  refine XS.aloadN X25.here hx rfl (hb hby own_h102) rfl rfl ?_
  exact hh)
 clear k2
 obtain ⟨T40, X41, e42, st43⟩ := getF X25 hx hZ hown (host := "") (Or.inl (wT hw 50 rfl)) Via.refl e38 f1_ (g := (mkF m 17 #[.val (.ref a), .val (.int (Int32.ofNat j))] [(.ref a)])) rfl rfl (hb hby own_h103)
 have k4 : own_J p e below T40 m 20 #[.val (.ref a), .val (.int (Int32.ofNat j))] [(.ref t)] B_ := fun t_ hh => k3 t_ (st43 t_ hh)
 clear k3 st43 X25 e38
 have k5 : own_J p e below T40 m 21 #[.val (.ref a), .val (.int (Int32.ofNat j))] [(.int (Int32.ofNat j)), (.ref t)] B_ := fun t_ hh => k4 t_ (by
  refine XS.iloadN X41.here hx rfl (hb hby own_h104) rfl ?_
  exact hh)
 clear k4
 obtain ⟨_, _, ⟨T44, L45, k_46, n_47⟩, -, X48, ⟨Lc49, hQ50, l_51, y_52, z_53⟩, st54⟩ := Jvm.LawKit.callS X41 hx (y := (⟨"java/lang/StringUTF16", "charAt", "([BI)C"⟩ : MethodName)) hown (mvT hZ (wT hw 107 rfl)) (mvT hZ (wT hw 108 rfl)) (mvT hZ (wT hw 39 rfl)) (mvT hZ (wT hw 109 rfl)) (by decide) (backOf (W := 0) (rmChu l Z a0 hw [] j cv t kt N ds h0 n0 Z0 f3_ hN hj f6_ hlo hhi hq0 hq1 sA sH sL gv sG hg) hZ (wT hw 109 rfl) (wT hw 39 rfl) (by decide) (by decide)) (g := (mkF m 21 #[.val (.ref a), .val (.int (Int32.ofNat j))] [(.int (Int32.ofNat j)), (.ref t)])) rfl (by rw [hml]; rfl) (argsL := [(.ref t), (.int (Int32.ofNat j))]) (rest := []) (lenOf own_h83 rfl) rfl (by show 2 * 0 + _ ≤ _; exact Nat.le_of_eq rfl) (hb hby own_h105) (fun _ _ => ⟨rfl, e42, own_l rfl, own_l rfl⟩)
 dsimp only [Pt.U, Pt.locs, Pt.cells, Pt.slots] at X48 l_51 y_52 z_53 st54 hQ50
 replace l_51 := l_51.symm
 subst l_51 y_52 z_53
 obtain ⟨rfl, N55, e56⟩ := hQ50
 have N57 := Fr.app N39 N55
 have k6 : own_J p e below T44 m 24 #[.val (.ref a), .val (.int (Int32.ofNat j))] [(.int cv)] B_ := fun t_ hh => k5 t_ (st54 t_ hh)
 clear k5 st54 X41 e42
 obtain ⟨fs, hr, hrun, hended, hW, hsame⟩ := X48.leave (v := some (.int (nar .char cv))) (fun h => by rw [Bd.returns] at h; cases h)
 refine ⟨_, _, (own_from hB_ (k6 _ (retN X48 hx (t := .char) Bd.returns (by simp) (hb hby own_h106) hr))), hrun, hended, _, _, rfl, ?_, ⟨_, rfl⟩, hW, hsame.mono (own_l rfl) (own_l rfl)⟩
 show Q_rmChA Z a j cv t kt N ds h0 n0 _ T44.heap _
 rw [e56]
 exact ⟨(by rw [own_nar16 hq0 hq1]), N57, rfl⟩
def Q_rmLeU (Z : State) (a : Addr) (t : Addr) (kt : ClassId) (N : Nat) (ds : List Value) (h0 : Heap) (n0 : Nat) (v : Option Value) (h : Heap) (L : List Loc) : Prop := v = some (.int (Int32.ofNat N)) ∧ Fr n0 L ∧ h = h0
theorem own_h107 : decode jdk_42_method_54_code 0 = .ok (.aload_n 0, 1) := by decide +kernel
theorem own_h108 : decode jdk_42_method_54_code 1 = .ok (.getfield 9, 3) := by decide +kernel
theorem own_h109 : decode jdk_42_method_54_code 4 = .ok (.arraylength, 1) := by decide +kernel
theorem own_h110 : decode jdk_42_method_54_code 5 = .ok (.aload_n 0, 1) := by decide +kernel
theorem own_h111 : decode jdk_42_method_54_code 6 = .ok (.invokevirtual 335, 3) := by decide +kernel
theorem own_h112 : parseMethodDescriptor "()B" = some ⟨[], some .byte⟩ := by decide +kernel
theorem own_h113 : decode jdk_42_method_54_code 9 = .ok (.ishr, 1) := by decide +kernel
theorem own_h114 : decode jdk_42_method_54_code 10 = .ok (.ireturn, 1) := by decide +kernel
theorem rmLeU (l : Launch) (Z : State) (a0 : Array Value) (hw : ∀ d ∈ tables_1, d.before a0 Z = true) (ws : List Jvm.Cond) (a : Addr) (t : Addr) (kt : ClassId) (N : Nat) (ds : List Value) (h0 : Heap) (n0 : Nat) (Z0 : n0 ≤ h0.size) (f0_ : Exa Z h0 a "java/lang/String") (f1_ : Fld Z h0 a "java/lang/String" "value" "[B" (.ref t)) (f2_ : Fld Z h0 a "java/lang/String" "coder" "B" (.int (1 : Int32))) (f3_ : Arv Z h0 t kt .byte (Int32.ofNat (2 * N)) ds (.int (0 : Int32))) (hN : N ≤ 11) (f5_ : Old Z n0 h0) (ci : Int32) (sC : Sta Z Z.heap "java/lang/String" "COMPACT_STRINGS" "Z" (.int ci)) (hc : ¬ ci = 0) :
    own_Met l (⟨"java/lang/String", "length", "()I"⟩ : MethodName) jdk_42_method_54_code 1 (some .int) ws (rO 1 0 0 13) #[(.ref a)] Z h0 (Q_rmLeU Z a t kt N ds h0 n0) := by
 refine MetFree.of_bodySF (plainFor_of_name own_h9) hisR ?_
 intro p e s m args below meth c s₁ Bd hml0 hP hK
 obtain ⟨rfl, hZ, hh⟩ := hP
 have hx := Bd.exec
 have hby := Bd.bytes
 have hml : c.maxLocals = 1 := hml0
 have hown : s.vm.findClass "java/lang/String" = some m.cls := findClass_of_methodNamed Bd.named
 have hnm := (name_of_methodNamed Bd.named Bd.method).1
 have X0 : Stand p l e (rO 1 0 0 13) s m #[(.ref a)] below meth c s₁ [] 0 0 := Stand.of_body Bd
 have e0 : s₁.heap = h0 := by rw [← hh, Bd.state]; rfl
 have N0 := Fr.nil n0
 obtain ⟨B_, hB_⟩ : ∃ z, z = s₁.setTop (entryFrame m #[(.ref a)] 1) := ⟨_, rfl⟩
 have k0 : own_K p e below (s₁.setTop (mkF m 0 #[.val (.ref a)] [])) B_ := by rw [hB_]; exact fun t k => castTop (by clear k; first | (simp [entryFrame, mkF, argsToLocals, Value.category, maxLocals]; done) | rfl) k
 have k1 : own_J p e below s₁ m 1 #[.val (.ref a)] [(.ref a)] B_ := fun t_ hh => k0 t_ (by
  refine XS.aloadN X0.here hx rfl (hb hby own_h107) rfl rfl ?_
  exact hh)
 obtain ⟨T21, X22, e23, st24⟩ := getF X0 hx hZ hown (host := "") (Or.inl (wT hw 50 rfl)) Via.refl e0 f1_ (g := (mkF m 1 #[.val (.ref a)] [(.ref a)])) rfl rfl (hb hby own_h108)
 have k2 : own_J p e below T21 m 4 #[.val (.ref a)] [(.ref t)] B_ := fun t_ hh => k1 t_ (st24 t_ hh)
 clear k1 st24
 obtain ⟨cl25, Ar26, -, S27, Ng28, -, -⟩ := id f3_
 have k3 : own_J p e below T21 m 6 #[.val (.ref a)] [(.ref a), (.int (Int32.ofNat (2 * N)))] B_ := fun t_ hh => k2 t_ (by
  refine X22.arraylength hx (by rw [e23]; exact Ar26.1) (State.isArrayOf_alike hZ.alike Ar26.2.1) (g := (mkF m 4 #[.val (.ref a)] [(.ref t)])) rfl rfl (hb hby own_h109) _ ?_
  rw [len_of S27 Ng28]
  refine XS.aloadN X22.here hx rfl (hb hby own_h110) rfl rfl ?_
  exact hh)
 clear k2
 obtain ⟨cq40, kq41, qa42, qb43, qc44⟩ := isOf hZ e23 f0_
 obtain ⟨_, _, ⟨T29, L30, k_31, n_32⟩, -, X33, ⟨Lc34, hQ35, l_36, y_37, z_38⟩, st39⟩ := X22.virtualBack hx (y := (⟨"java/lang/String", "coder", "()B"⟩ : MethodName)) (z := (⟨"java/lang/String", "coder", "()B"⟩ : MethodName)) hown (mvT hZ (wT hw 61 rfl)) (mvT hZ (wT hw 62 rfl)) (notFace_of_selects (args := #[]) (mvT hZ (wT hw 64 rfl))) (mvT hZ (wT hw 64 rfl)) (mvT hZ (wT hw 63 rfl)) (by decide) (backOf (W := 1) (rmCo l Z a0 hw [] a h0 n0 Z0 f2_ f5_ ci sC hc) hZ (wT hw 65 rfl) (wT hw 25 rfl) (by decide) (by decide)) qa42 qc44 (g := (mkF m 6 #[.val (.ref a)] [(.ref a), (.int (Int32.ofNat (2 * N)))])) rfl (by rw [hml]; rfl) (Steps.refl _) (argsL := []) (rest := [(.int (Int32.ofNat (2 * N)))]) (lenOf own_h112 rfl) rfl (by show 2 * 0 + _ ≤ _; exact Nat.le_of_eq rfl) (hb hby own_h111) (fun _ _ => ⟨rfl, e23, own_l rfl, own_l rfl⟩)
 dsimp only [Pt.U, Pt.locs, Pt.cells, Pt.slots] at X33 l_36 y_37 z_38 st39 hQ35
 replace l_36 := l_36.symm
 subst l_36 y_37 z_38
 obtain ⟨rfl, N45, e46⟩ := hQ35
 have N47 := Fr.app N0 N45
 have k4 : own_J p e below T29 m 9 #[.val (.ref a)] [(.int (1 : Int32)), (.int (Int32.ofNat (2 * N)))] B_ := fun t_ hh => k3 t_ (st39.trans hh)
 clear k3 st39 X22 e23
 have k5 : own_J p e below T29 m 10 #[.val (.ref a)] [(.int ((Int32.ofNat (2 * N)) >>> ((1 : Int32) &&& 31)))] B_ := fun t_ hh => k4 t_ (by
  refine XS.ishr X33.here hx rfl (hb hby own_h113) rfl ?_
  exact hh)
 clear k4
 obtain ⟨fs, hr, hrun, hended, hW, hsame⟩ := X33.leave (v := some (.int ((Int32.ofNat (2 * N)) >>> ((1 : Int32) &&& 31)))) (fun h => by rw [Bd.returns] at h; cases h)
 refine ⟨_, _, (own_from hB_ (k5 _ (retOut X33 hx (t := .int) Bd.returns rfl (Or.inl ⟨rfl, (by simp), _, rfl⟩) (hb hby own_h114) hr))), hrun, hended, _, _, rfl, ?_, ⟨_, rfl⟩, hW, hsame.mono (own_l rfl) (own_l rfl)⟩
 show Q_rmLeU Z a t kt N ds h0 n0 _ T29.heap _
 rw [e46]
 exact ⟨(by rw [own_shr1 (by omega)]), N47, rfl⟩
def Q_rmNbl (Z : State) (N : Nat) (h0 : Heap) (n0 : Nat) (v : Option Value) (h : Heap) (L : List Loc) : Prop := v = some (.int (Int32.ofNat (2 * N))) ∧ Fr n0 L ∧ h = h0
theorem own_h115 : decode jdk_52_method_3_code 0 = .ok (.iload_n 0, 1) := by decide +kernel
theorem own_h116 : decode jdk_52_method_3_code 1 = .ok (.ifCond .ge 11, 3) := by decide +kernel
theorem own_h117 : decode jdk_52_method_3_code 12 = .ok (.iload_n 0, 1) := by decide +kernel
theorem own_h118 : decode jdk_52_method_3_code 13 = .ok (.ldc 20, 2) := by decide +kernel
theorem own_h119 : decode jdk_52_method_3_code 15 = .ok (.if_icmp .lt 40, 3) := by decide +kernel
theorem own_h120 : decode jdk_52_method_3_code 55 = .ok (.iload_n 0, 1) := by decide +kernel
theorem own_h121 : decode jdk_52_method_3_code 56 = .ok (.iconst 1, 1) := by decide +kernel
theorem own_h122 : decode jdk_52_method_3_code 57 = .ok (.ishl, 1) := by decide +kernel
theorem own_h123 : decode jdk_52_method_3_code 58 = .ok (.ireturn, 1) := by decide +kernel
theorem rmNbl (l : Launch) (Z : State) (a0 : Array Value) (hw : ∀ d ∈ tables_1, d.before a0 Z = true) (ws : List Jvm.Cond) (N : Nat) (h0 : Heap) (n0 : Nat) (Z0 : n0 ≤ h0.size) (hN : N ≤ 11)  :
    own_Met l (⟨"java/lang/StringUTF16", "newBytesLength", "(I)I"⟩ : MethodName) jdk_52_method_3_code 1 (some .int) ws (rO 0 0 0 0) #[(.int (Int32.ofNat N))] Z h0 (Q_rmNbl Z N h0 n0) := by
 refine MetFree.of_bodySF (plainFor_of_name own_h17) hisR ?_
 intro p e s m args below meth c s₁ Bd hml0 hP hK
 obtain ⟨rfl, hZ, hh⟩ := hP
 have hx := Bd.exec
 have hby := Bd.bytes
 have hml : c.maxLocals = 1 := hml0
 have hown : s.vm.findClass "java/lang/StringUTF16" = some m.cls := findClass_of_methodNamed Bd.named
 have hnm := (name_of_methodNamed Bd.named Bd.method).1
 have X0 : Stand p l e (rO 0 0 0 0) s m #[(.int (Int32.ofNat N))] below meth c s₁ [] 0 0 := Stand.of_body Bd
 have e0 : s₁.heap = h0 := by rw [← hh, Bd.state]; rfl
 have N0 := Fr.nil n0
 obtain ⟨B_, hB_⟩ : ∃ z, z = s₁.setTop (entryFrame m #[(.int (Int32.ofNat N))] 1) := ⟨_, rfl⟩
 have k0 : own_K p e below (s₁.setTop (mkF m 0 #[.val (.int (Int32.ofNat N))] [])) B_ := by rw [hB_]; exact fun t k => castTop (by clear k; first | (simp [entryFrame, mkF, argsToLocals, Value.category, maxLocals]; done) | rfl) k
 have k1 : own_J p e below s₁ m 58 #[.val (.int (Int32.ofNat N))] [(.int ((Int32.ofNat N) <<< ((1 : Int32) &&& 31)))] B_ := fun t_ hh => k0 t_ (by
  refine XS.iloadN X0.here hx rfl (hb hby own_h115) rfl ?_
  refine XS.ifYes X0.here hx rfl (pc0 := 1) (pc' := 12) rfl (hb hby own_h116) rfl (own_ifT_ge (own_nneg (by omega))) (by decide) (by decide) ?_
  refine XS.iloadN X0.here hx rfl (hb hby own_h117) rfl ?_
  refine X0.ldcInt hx hown (mvT hZ (wT hw 97 rfl)) (g := (mkF m 13 #[.val (.int (Int32.ofNat N))] [(.int (Int32.ofNat N))])) rfl (hb hby own_h118) _ ?_
  refine XS.icmpYes X0.here hx rfl (pc0 := 15) (pc' := 55) rfl (hb hby own_h119) rfl (own_icT_lt (own_ltlit (by omega))) (by decide) (by decide) ?_
  refine XS.iloadN X0.here hx rfl (hb hby own_h120) rfl ?_
  refine XS.iconst X0.here hx rfl (hb hby own_h121) ?_
  refine XS.ishl X0.here hx rfl (hb hby own_h122) rfl ?_
  exact hh)
 obtain ⟨fs, hr, hrun, hended, hW, hsame⟩ := X0.leave (v := some (.int ((Int32.ofNat N) <<< ((1 : Int32) &&& 31)))) (fun h => by rw [Bd.returns] at h; cases h)
 refine ⟨_, _, (own_from hB_ (k1 _ (retOut X0 hx (t := .int) Bd.returns rfl (Or.inl ⟨rfl, (by simp), _, rfl⟩) (hb hby own_h123) hr))), hrun, hended, _, _, rfl, ?_, ⟨_, rfl⟩, hW, hsame.mono (own_l rfl) (own_l rfl)⟩
 show Q_rmNbl Z N h0 n0 _ s₁.heap _
 rw [e0]
 exact ⟨(by rw [own_shl1 (by omega)]), N0, rfl⟩
def Q_rmNbf (Z : State) (N : Nat) (h0 : Heap) (n0 : Nat) (v : Option Value) (h : Heap) (L : List Loc) : Prop := ∃ t : Addr, ∃ kt : ClassId, v = some (.ref t) ∧ Fr n0 L ∧ Keep h0 h [] ∧ Arv Z h t kt .byte (Int32.ofNat (2 * N)) (List.replicate (2 * N) (.int (0 : Int32))) (.int (0 : Int32)) ∧ n0 ≤ t ∧ h0.size ≤ t ∧ True
theorem own_h124 : decode jdk_52_method_2_code 0 = .ok (.iload_n 0, 1) := by decide +kernel
theorem own_h125 : decode jdk_52_method_2_code 1 = .ok (.invokestatic 11, 3) := by decide +kernel
theorem own_h126 : parseMethodDescriptor "(I)I" = some ⟨[.int], some .int⟩ := by decide +kernel
theorem own_h127 : decode jdk_52_method_2_code 4 = .ok (.newarray .byte, 2) := by decide +kernel
theorem own_h128 : decode jdk_52_method_2_code 6 = .ok (.areturn, 1) := by decide +kernel
theorem rmNbf (l : Launch) (Z : State) (a0 : Array Value) (hw : ∀ d ∈ tables_1, d.before a0 Z = true) (ws : List Jvm.Cond) (N : Nat) (h0 : Heap) (n0 : Nat) (Z0 : n0 ≤ h0.size) (hN : N ≤ 11)  :
    own_Met l (⟨"java/lang/StringUTF16", "newBytesFor", "(I)[B"⟩ : MethodName) jdk_52_method_2_code 1 (some (.array .byte)) ws (rO 1 1 22 12) #[(.int (Int32.ofNat N))] Z h0 (Q_rmNbf Z N h0 n0) := by
 refine MetFree.of_bodySF (plainFor_of_name own_h17) hisR ?_
 intro p e s m args below meth c s₁ Bd hml0 hP hK
 obtain ⟨rfl, hZ, hh⟩ := hP
 have hx := Bd.exec
 have hby := Bd.bytes
 have hml : c.maxLocals = 1 := hml0
 have hown : s.vm.findClass "java/lang/StringUTF16" = some m.cls := findClass_of_methodNamed Bd.named
 have hnm := (name_of_methodNamed Bd.named Bd.method).1
 have X0 : Stand p l e (rO 1 1 22 12) s m #[(.int (Int32.ofNat N))] below meth c s₁ [] 0 0 := Stand.of_body Bd
 have e0 : s₁.heap = h0 := by rw [← hh, Bd.state]; rfl
 have N0 := Fr.nil n0
 obtain ⟨B_, hB_⟩ : ∃ z, z = s₁.setTop (entryFrame m #[(.int (Int32.ofNat N))] 1) := ⟨_, rfl⟩
 have k0 : own_K p e below (s₁.setTop (mkF m 0 #[.val (.int (Int32.ofNat N))] [])) B_ := by rw [hB_]; exact fun t k => castTop (by clear k; first | (simp [entryFrame, mkF, argsToLocals, Value.category, maxLocals]; done) | rfl) k
 have K0 : Keep h0 h0 [] := Keep.refl _ _
 have k1 : own_J p e below s₁ m 1 #[.val (.int (Int32.ofNat N))] [(.int (Int32.ofNat N))] B_ := fun t_ hh => k0 t_ (by
  refine XS.iloadN X0.here hx rfl (hb hby own_h124) rfl ?_
  exact hh)
 obtain ⟨_, _, ⟨T21, L22, k_23, n_24⟩, -, X25, ⟨Lc26, hQ27, l_28, y_29, z_30⟩, st31⟩ := Jvm.LawKit.callS X0 hx (y := (⟨"java/lang/StringUTF16", "newBytesLength", "(I)I"⟩ : MethodName)) hown (mvT hZ (wT hw 94 rfl)) (mvT hZ (wT hw 95 rfl)) (mvT hZ (wT hw 39 rfl)) (mvT hZ (wT hw 96 rfl)) (by decide) (backOf (W := 0) (rmNbl l Z a0 hw [] N h0 n0 Z0 hN ) hZ (wT hw 96 rfl) (wT hw 39 rfl) (by decide) (by decide)) (g := (mkF m 1 #[.val (.int (Int32.ofNat N))] [(.int (Int32.ofNat N))])) rfl (by rw [hml]; rfl) (argsL := [(.int (Int32.ofNat N))]) (rest := []) (lenOf own_h126 rfl) rfl (by show 2 * 0 + _ ≤ _; exact Nat.le_of_eq rfl) (hb hby own_h125) (fun _ _ => ⟨rfl, e0, own_l rfl, own_l rfl⟩)
 dsimp only [Pt.U, Pt.locs, Pt.cells, Pt.slots] at X25 l_28 y_29 z_30 st31 hQ27
 replace l_28 := l_28.symm
 subst l_28 y_29 z_30
 obtain ⟨rfl, N32, e33⟩ := hQ27
 have N34 := Fr.app N0 N32
 have k2 : own_J p e below T21 m 4 #[.val (.int (Int32.ofNat N))] [(.int (Int32.ofNat (2 * N)))] B_ := fun t_ hh => k1 t_ (st31 t_ hh)
 clear k1 st31
 obtain ⟨T35, h36, kA37, X38, e39, E40, A41, st43⟩ := newP X25 hx hZ (wT hw 41 rfl) e33 (g := (mkF m 4 #[.val (.int (Int32.ofNat N))] [(.int (Int32.ofNat (2 * N)))])) rfl (hb hby own_h127) rfl (own_nneg (by omega)) (cap := 22) (by rw [own_natC (by omega)]; omega) (by decide) (by decide) (by decide)
 obtain ⟨a44, g45⟩ : ∃ z, z = h0.size := ⟨_, rfl⟩
 rw [← g45] at A41 st43
 have H046 : h0.size ≤ a44 := Nat.le_trans K0.1 (Nat.le_of_eq g45.symm)
 have G47 : n0 ≤ a44 := Nat.le_trans Z0 (Nat.le_of_eq g45.symm)
 have Z48 : n0 ≤ h36.size := Nat.le_trans Z0 E40.1
 have P49 : Keep h0 h36 [] := K0.ext E40
 have V50 : Arv Z h36 a44 kA37 .byte (Int32.ofNat (2 * N)) (List.replicate (2 * N) (.int (0 : Int32))) (.int (0 : Int32)) := Arv.pad (Arv.new A41 (own_nneg (by omega))) (pad_rep [] (.int (0 : Int32)) (2 * N))
 have k3 : own_J p e below T35 m 6 #[.val (.int (Int32.ofNat N))] [(.ref a44)] B_ := fun t_ hh => k2 t_ (st43 t_ hh)
 clear k2 st43 X25 e33
 obtain ⟨fs, hr, hrun, hended, hW, hsame⟩ := X38.leave (v := some (.ref a44)) (fun h => by rw [Bd.returns] at h; cases h)
 refine ⟨_, _, (own_from hB_ (k3 _ (retOut X38 hx (t := .array .byte) Bd.returns rfl (Or.inr (Or.inr (Or.inr (Or.inr ⟨rfl, rfl, rfl⟩)))) (hb hby own_h128) hr))), hrun, hended, _, _, rfl, ?_, ⟨_, rfl⟩, hW, hsame.mono (own_l rfl) (own_l rfl)⟩
 show Q_rmNbf Z N h0 n0 _ T35.heap _
 rw [e39]
 exact ⟨a44, kA37, rfl, N34, P49, V50, G47, H046, trivial⟩
theorem own_h129 : decode jdk_52_method_21_code 0 = .ok (.iconst 0, 1) := by decide +kernel
theorem own_h130 : decode jdk_52_method_21_code 1 = .ok (.istore 5, 2) := by decide +kernel
theorem own_h131 : decode jdk_52_method_21_code 3 = .ok (.iload 5, 2) := by decide +kernel
theorem own_h132 : decode jdk_52_method_21_code 5 = .ok (.iload 4, 2) := by decide +kernel
theorem own_h133 : decode jdk_52_method_21_code 7 = .ok (.if_icmp .ge 37, 3) := by decide +kernel
theorem own_h134 : decode jdk_52_method_21_code 10 = .ok (.aload_n 0, 1) := by decide +kernel
theorem own_h135 : decode jdk_52_method_21_code 11 = .ok (.iload_n 1, 1) := by decide +kernel
theorem own_h136 : decode jdk_52_method_21_code 12 = .ok (.caload, 1) := by decide +kernel
theorem own_h137 : decode jdk_52_method_21_code 13 = .ok (.istore 6, 2) := by decide +kernel
theorem own_h138 : decode jdk_52_method_21_code 15 = .ok (.iload 6, 2) := by decide +kernel
theorem own_h139 : decode jdk_52_method_21_code 17 = .ok (.sipush 255, 3) := by decide +kernel
theorem own_h140 : decode jdk_52_method_21_code 20 = .ok (.if_icmp .le 6, 3) := by decide +kernel
theorem own_h141 : decode jdk_52_method_21_code 23 = .ok (.iload 5, 2) := by decide +kernel
theorem own_h142 : decode jdk_52_method_21_code 25 = .ok (.ireturn, 1) := by decide +kernel
theorem own_h143 : decode jdk_52_method_21_code 26 = .ok (.aload_n 2, 1) := by decide +kernel
theorem own_h144 : decode jdk_52_method_21_code 27 = .ok (.iload_n 3, 1) := by decide +kernel
theorem own_h145 : decode jdk_52_method_21_code 28 = .ok (.iload 6, 2) := by decide +kernel
theorem own_h146 : decode jdk_52_method_21_code 30 = .ok (.i2b, 1) := by decide +kernel
theorem own_h147 : decode jdk_52_method_21_code 31 = .ok (.bastore, 1) := by decide +kernel
theorem own_h148 : decode jdk_52_method_21_code 32 = .ok (.iinc 1 1, 3) := by decide +kernel
theorem own_h149 : decode jdk_52_method_21_code 35 = .ok (.iinc 3 1, 3) := by decide +kernel
theorem own_h150 : decode jdk_52_method_21_code 38 = .ok (.iinc 5 1, 3) := by decide +kernel
theorem own_h151 : decode jdk_52_method_21_code 41 = .ok (.goto (-38), 3) := by decide +kernel
set_option maxRecDepth 65536 in
set_option maxHeartbeats 40000000 in
theorem own_cm_t {p : Program} {l : Launch} {e : Env} {s : State} {m : MethodId} {args : Array Value} {below : List Frame} {meth : Method} {c : Code} (Z : State) (a0 : Array Value) (hw : ∀ d ∈ tables_1, d.before a0 Z = true) (hx : p.tables.exec = Jvm.exec) (hby : c.code = jdk_52_method_21_code) (hml : c.maxLocals = 7) (hZ : Z.Warmed39 s.vm) (hown : s.vm.findClass "java/lang/StringUTF16" = some m.cls) (b t : Addr) (kb kt : ClassId) (cs : List Int32) (h0 : Heap) (n0 : Nat) (gt : n0 ≤ t) (nbt : b ≠ t) (h11 : cs.length ≤ 11) (B : State) (k : Nat) (hk : k < cs.length) (hlo : ∀ j, j < k → ¬ (255 : Int32) < cs.getD j 0) (i : Nat) (hi : i < k) (hle : ¬ (255 : Int32) < cs.getD i 0) : ∀ (T : State) (h : Heap) (locs : List Loc) (ds : List Value) (sl : Slot), Stand p l e (rO 0 0 0 0) s m args below meth c T locs 0 0 → T.heap = h → Fr n0 locs → n0 ≤ h.size → Keep h0 h [t] → Old Z n0 h → Arv Z h b kb .char (Int32.ofNat cs.length) (cs.map Value.int) (.int 0) → Arv Z h t kt .byte (Int32.ofNat cs.length) ds (.int 0) → ds.length = cs.length → (sl = .unset ∨ ∃ x : Int32, sl = .val (.int x)) → own_J p e below T m 3 #[.val (.ref b), .val (.int (Int32.ofNat i)), .val (.ref t), .val (.int (Int32.ofNat i)), .val (.int (Int32.ofNat cs.length)), .val (.int (Int32.ofNat i)), sl] [] B → ∃ (T : State) (h : Heap) (locs : List Loc) (ds : List Value) (sl : Slot), Stand p l e (rO 0 0 0 0) s m args below meth c T locs 0 0 ∧ T.heap = h ∧ Fr n0 locs ∧ n0 ≤ h.size ∧ Keep h0 h [t] ∧ Old Z n0 h ∧ Arv Z h b kb .char (Int32.ofNat cs.length) (cs.map Value.int) (.int 0) ∧ Arv Z h t kt .byte (Int32.ofNat cs.length) ds (.int 0) ∧ ds.length = cs.length ∧ (sl = .unset ∨ ∃ x : Int32, sl = .val (.int x)) ∧ own_J p e below T m 3 #[.val (.ref b), .val (.int (Int32.ofNat (i + 1))), .val (.ref t), .val (.int (Int32.ofNat (i + 1))), .val (.int (Int32.ofNat cs.length)), .val (.int (Int32.ofNat (i + 1))), sl] [] B := by
 intro T h locs ds sl X eT NL Z1 K1 O1 v0 v1 v2 v3 kK
 have k1 : own_J p e below T m 31 #[.val (.ref b), .val (.int (Int32.ofNat i)), .val (.ref t), .val (.int (Int32.ofNat i)), .val (.int (Int32.ofNat cs.length)), .val (.int (Int32.ofNat i)), .val (.int (cs.getD i 0))] [(.int ((cs.getD i 0).toInt8.toInt32)), (.int (Int32.ofNat i)), (.ref t)] B := fun t_ hh => kK t_ (by
  refine XS.iload X.here hx rfl (hb hby own_h131) rfl ?_
  refine XS.iload X.here hx rfl (hb hby own_h132) rfl ?_
  refine XS.icmpNo X.here hx rfl (hb hby own_h133) rfl (own_icF_ge ((own_lt32 (by omega) (by omega)).mpr (by omega))) ?_
  refine XS.aloadN X.here hx rfl (hb hby own_h134) rfl rfl ?_
  refine XS.iloadN X.here hx rfl (hb hby own_h135) rfl ?_
  refine own_caload X hx hZ eT v0 (j := (Int32.ofNat i)) (v := (.int (cs.getD i 0))) ⟨(own_nneg (by omega)), ((own_lt32 (by omega) (by omega)).mpr (by omega))⟩ (own_atC cs (by omega)) (g := (mkF m 12 #[.val (.ref b), .val (.int (Int32.ofNat i)), .val (.ref t), .val (.int (Int32.ofNat i)), .val (.int (Int32.ofNat cs.length)), .val (.int (Int32.ofNat i)), sl] [(.int (Int32.ofNat i)), (.ref b)])) rfl rfl (hb hby own_h136) _ ?_
  refine XS.istore X.here hx rfl (hb hby own_h137) rfl (l' := #[.val (.ref b), .val (.int (Int32.ofNat i)), .val (.ref t), .val (.int (Int32.ofNat i)), .val (.int (Int32.ofNat cs.length)), .val (.int (Int32.ofNat i)), .val (.int (cs.getD i 0))]) (by rcases v3 with rfl | ⟨x, rfl⟩ <;> rfl) ?_
  refine XS.iload X.here hx rfl (hb hby own_h138) rfl ?_
  refine XS.sipush X.here hx rfl (hb hby own_h139) ?_
  refine XS.icmpYes X.here hx rfl (pc0 := 20) (pc' := 26) rfl (hb hby own_h140) rfl (own_icT_le hle) (by decide) (by decide) ?_
  refine XS.aloadN X.here hx rfl (hb hby own_h143) rfl rfl ?_
  refine XS.iloadN X.here hx rfl (hb hby own_h144) rfl ?_
  show Steps p.tables e below (T.setTop (mkF m 28 #[.val (.ref b), .val (.int (Int32.ofNat i)), .val (.ref t), .val (.int (Int32.ofNat i)), .val (.int (Int32.ofNat cs.length)), .val (.int (Int32.ofNat i)), .val (.int (cs.getD i 0))] [(.int (Int32.ofNat i)), (.ref t)])) _
  refine XS.iload X.here hx rfl (hb hby own_h145) rfl ?_
  refine XS.i2b X.here hx rfl (hb hby own_h146) rfl ?_
  exact hh)
 obtain ⟨cl51, Ar52, q53, S54, Ng55, H56, Gf57⟩ := id v1
 have hin58 := inb_of (j := (Int32.ofNat i)) S54 ⟨(own_nneg (by omega)), ((own_lt32 (by omega) (by omega)).mpr (by omega))⟩
 obtain ⟨T59, h60, X61, e62, W63, st64⟩ := stB X hx hZ eT Ar52 (j := (Int32.ofNat i)) hin58 (g := (mkF m 31 #[.val (.ref b), .val (.int (Int32.ofNat i)), .val (.ref t), .val (.int (Int32.ofNat i)), .val (.int (Int32.ofNat cs.length)), .val (.int (Int32.ofNat i)), .val (.int (cs.getD i 0))] [(.int ((cs.getD i 0).toInt8.toInt32)), (.int (Int32.ofNat i)), (.ref t)])) rfl rfl (hb hby own_h147)
 have N65 := Fr.snoc X61 NL gt
 have K66 : Keep h h60 [t] := Keep.of_wr W63
 have V67 : Arv Z h60 t kt .byte (Int32.ofNat cs.length) (List.set ds i (.int (((cs.getD i 0).toInt8.toInt32).toInt8.toInt32))) (.int 0) := Arv.set Ar52 q53 S54 Ng55 H56 Gf57 (fits_nar_byte _) W63 i (own_natC (by omega)) (by rw [v2]; omega)
 have k2 : own_J p e below T59 m 32 #[.val (.ref b), .val (.int (Int32.ofNat i)), .val (.ref t), .val (.int (Int32.ofNat i)), .val (.int (Int32.ofNat cs.length)), .val (.int (Int32.ofNat i)), .val (.int (cs.getD i 0))] [] B := fun t_ hh => k1 t_ (st64 t_ hh)
 clear k1 st64 cl51 Ar52 q53 S54 Ng55 H56 Gf57 hin58 W63
 have k3 : own_J p e below T59 m 3 #[.val (.ref b), .val (.int ((Int32.ofNat i) + (1 : Int32))), .val (.ref t), .val (.int ((Int32.ofNat i) + (1 : Int32))), .val (.int (Int32.ofNat cs.length)), .val (.int ((Int32.ofNat i) + (1 : Int32))), .val (.int (cs.getD i 0))] [] B := fun t_ hh => k2 t_ (by
  refine XS.iinc X61.here hx rfl (hb hby own_h148) rfl (l' := #[.val (.ref b), .val (.int ((Int32.ofNat i) + (1 : Int32))), .val (.ref t), .val (.int (Int32.ofNat i)), .val (.int (Int32.ofNat cs.length)), .val (.int (Int32.ofNat i)), .val (.int (cs.getD i 0))]) rfl ?_
  refine XS.iinc X61.here hx rfl (hb hby own_h149) rfl (l' := #[.val (.ref b), .val (.int ((Int32.ofNat i) + (1 : Int32))), .val (.ref t), .val (.int ((Int32.ofNat i) + (1 : Int32))), .val (.int (Int32.ofNat cs.length)), .val (.int (Int32.ofNat i)), .val (.int (cs.getD i 0))]) rfl ?_
  refine XS.iinc X61.here hx rfl (hb hby own_h150) rfl (l' := #[.val (.ref b), .val (.int ((Int32.ofNat i) + (1 : Int32))), .val (.ref t), .val (.int ((Int32.ofNat i) + (1 : Int32))), .val (.int (Int32.ofNat cs.length)), .val (.int ((Int32.ofNat i) + (1 : Int32))), .val (.int (cs.getD i 0))]) rfl ?_
  refine XS.goto X61.here hx rfl (pc0 := 41) (pc' := 3) rfl (hb hby own_h151) (by decide) (by decide) ?_
  exact hh)
 clear k2
 have F68 := v0.keep K66 (ninS nbt nin0)
 have Z69 : n0 ≤ h60.size := Nat.le_trans Z1 K66.1
 have O70 := O1.keep K66 (allS gt all0)
 have P71 : Keep h0 h60 [t] := K1.trans K66 (allS (P := fun x => x ∈ [t] ∨ h0.size ≤ x) (Or.inl (List.mem_of_getElem? (i := 0) rfl)) all0)
 rw [own_step32 (by omega)] at k3
 exact ⟨_, _, _, _, _, X61, e62, N65, Z69, P71, O70, F68, V67, by rw [List.length_set]; exact v2, Or.inr ⟨_, rfl⟩, k3⟩
theorem own_cm_l {p : Program} {l : Launch} {e : Env} {s : State} {m : MethodId} {args : Array Value} {below : List Frame} {meth : Method} {c : Code} (Z : State) (a0 : Array Value) (hw : ∀ d ∈ tables_1, d.before a0 Z = true) (hx : p.tables.exec = Jvm.exec) (hby : c.code = jdk_52_method_21_code) (hml : c.maxLocals = 7) (hZ : Z.Warmed39 s.vm) (hown : s.vm.findClass "java/lang/StringUTF16" = some m.cls) (b t : Addr) (kb kt : ClassId) (cs : List Int32) (h0 : Heap) (n0 : Nat) (gt : n0 ≤ t) (nbt : b ≠ t) (h11 : cs.length ≤ 11) (B : State) (k : Nat) (hk : k < cs.length) (hlo : ∀ j, j < k → ¬ (255 : Int32) < cs.getD j 0) : ∀ j, j ≤ k → ∀ (T : State) (h : Heap) (locs : List Loc) (ds : List Value) (sl : Slot), Stand p l e (rO 0 0 0 0) s m args below meth c T locs 0 0 → T.heap = h → Fr n0 locs → n0 ≤ h.size → Keep h0 h [t] → Old Z n0 h → Arv Z h b kb .char (Int32.ofNat cs.length) (cs.map Value.int) (.int 0) → Arv Z h t kt .byte (Int32.ofNat cs.length) ds (.int 0) → ds.length = cs.length → (sl = .unset ∨ ∃ x : Int32, sl = .val (.int x)) → own_J p e below T m 3 #[.val (.ref b), .val (.int (Int32.ofNat (k - j))), .val (.ref t), .val (.int (Int32.ofNat (k - j))), .val (.int (Int32.ofNat cs.length)), .val (.int (Int32.ofNat (k - j))), sl] [] B → ∃ (T : State) (h : Heap) (locs : List Loc) (ds : List Value) (sl : Slot), Stand p l e (rO 0 0 0 0) s m args below meth c T locs 0 0 ∧ T.heap = h ∧ Fr n0 locs ∧ n0 ≤ h.size ∧ Keep h0 h [t] ∧ Old Z n0 h ∧ Arv Z h b kb .char (Int32.ofNat cs.length) (cs.map Value.int) (.int 0) ∧ Arv Z h t kt .byte (Int32.ofNat cs.length) ds (.int 0) ∧ ds.length = cs.length ∧ (sl = .unset ∨ ∃ x : Int32, sl = .val (.int x)) ∧ own_J p e below T m 3 #[.val (.ref b), .val (.int (Int32.ofNat k)), .val (.ref t), .val (.int (Int32.ofNat k)), .val (.int (Int32.ofNat cs.length)), .val (.int (Int32.ofNat k)), sl] [] B := by
 intro j
 induction j with
 | zero => intro _ T h locs ds sl X eT NL Z1 K1 O1 v0 v1 v2 v3 kK; exact ⟨T, h, locs, ds, sl, X, eT, NL, Z1, K1, O1, v0, v1, v2, v3, kK⟩
 | succ j ih =>
  intro hj T h locs ds sl X eT NL Z1 K1 O1 v0 v1 v2 v3 kK
  obtain ⟨T1, h1, locs1, ds1, sl1, X', eT', NL', Z1', K1', O1', v0', v1', v2', v3', kK'⟩ := own_cm_t Z a0 hw hx hby hml hZ hown b t kb kt cs h0 n0 gt nbt h11 B k hk hlo (k - (j + 1)) (by omega) (hlo _ (by omega)) T h locs ds sl X eT NL Z1 K1 O1 v0 v1 v2 v3 kK
  rw [show k - (j + 1) + 1 = k - j by omega] at kK'
  exact ih (by omega) T1 h1 locs1 ds1 sl1 X' eT' NL' Z1' K1' O1' v0' v1' v2' v3' kK'
theorem own_h154 : decode jdk_52_method_14_code 0 = .ok (.iload_n 2, 1) := by decide +kernel
theorem own_h155 : decode jdk_52_method_14_code 1 = .ok (.invokestatic 107, 3) := by decide +kernel
theorem own_h156 : decode jdk_52_method_14_code 4 = .ok (.astore_n 3, 1) := by decide +kernel
theorem own_h157 : decode jdk_52_method_14_code 5 = .ok (.iconst 0, 1) := by decide +kernel
theorem own_h158 : decode jdk_52_method_14_code 6 = .ok (.istore 4, 2) := by decide +kernel
theorem own_h159 : decode jdk_52_method_14_code 8 = .ok (.iload 4, 2) := by decide +kernel
theorem own_h160 : decode jdk_52_method_14_code 10 = .ok (.iload_n 2, 1) := by decide +kernel
theorem own_h161 : decode jdk_52_method_14_code 11 = .ok (.if_icmp .ge 21, 3) := by decide +kernel
theorem own_h162 : decode jdk_52_method_14_code 14 = .ok (.aload_n 3, 1) := by decide +kernel
theorem own_h163 : decode jdk_52_method_14_code 15 = .ok (.iload 4, 2) := by decide +kernel
theorem own_h164 : decode jdk_52_method_14_code 17 = .ok (.aload_n 0, 1) := by decide +kernel
theorem own_h165 : decode jdk_52_method_14_code 18 = .ok (.iload_n 1, 1) := by decide +kernel
theorem own_h166 : decode jdk_52_method_14_code 19 = .ok (.caload, 1) := by decide +kernel
theorem own_h167 : decode jdk_52_method_14_code 20 = .ok (.invokestatic 111, 3) := by decide +kernel
theorem own_h168 : decode jdk_52_method_14_code 23 = .ok (.iinc 1 1, 3) := by decide +kernel
theorem own_h169 : decode jdk_52_method_14_code 26 = .ok (.iinc 4 1, 3) := by decide +kernel
theorem own_h170 : decode jdk_52_method_14_code 29 = .ok (.goto (-21), 3) := by decide +kernel
theorem own_h171 : decode jdk_52_method_14_code 32 = .ok (.aload_n 3, 1) := by decide +kernel
theorem own_h172 : decode jdk_52_method_14_code 33 = .ok (.areturn, 1) := by decide +kernel
theorem own_h173 : parseMethodDescriptor "([BII)V" = some ⟨[.array .byte, .int, .int], none⟩ := by decide +kernel
set_option maxRecDepth 65536 in
set_option maxHeartbeats 40000000 in
theorem own_tb_t {p : Program} {l : Launch} {e : Env} {s : State} {m : MethodId} {args : Array Value} {below : List Frame} {meth : Method} {c : Code} (Z : State) (a0 : Array Value) (hw : ∀ d ∈ tables_1, d.before a0 Z = true) (hx : p.tables.exec = Jvm.exec) (hby : c.code = jdk_52_method_14_code) (hml : c.maxLocals = 5) (hZ : Z.Warmed39 s.vm) (hown : s.vm.findClass "java/lang/StringUTF16" = some m.cls) (b t : Addr) (kb kt : ClassId) (cs : List Int32) (h0 : Heap) (n0 : Nat) (gt : n0 ≤ t) (nbt : b ≠ t) (h11 : cs.length ≤ 11) (B : State) (sA : Sta Z Z.heap "java/lang/StringUTF16" "$assertionsDisabled" "Z" (.int (1 : Int32))) (sH : Sta Z Z.heap "java/lang/StringUTF16" "HI_BYTE_SHIFT" "I" (.int (0 : Int32))) (sL : Sta Z Z.heap "java/lang/StringUTF16" "LO_BYTE_SHIFT" "I" (.int (8 : Int32))) (i : Nat) (hi : i < cs.length)  : ∀ (T : State) (h : Heap) (locs : List Loc) (ds : List Value) (sl : Slot), Stand p l e (rO 3 1 22 60) s m args below meth c T locs 1 22 → T.heap = h → Fr n0 locs → n0 ≤ h.size → Keep h0 h [t] → Old Z n0 h → Arv Z h b kb .char (Int32.ofNat cs.length) (cs.map Value.int) (.int 0) → Arv Z h t kt .byte (Int32.ofNat (2 * cs.length)) ds (.int 0) → own_enc cs ds i → own_J p e below T m 8 #[.val (.ref b), .val (.int (Int32.ofNat i)), .val (.int (Int32.ofNat cs.length)), .val (.ref t), .val (.int (Int32.ofNat i))] [] B → ∃ (T : State) (h : Heap) (locs : List Loc) (ds : List Value) (sl : Slot), Stand p l e (rO 3 1 22 60) s m args below meth c T locs 1 22 ∧ T.heap = h ∧ Fr n0 locs ∧ n0 ≤ h.size ∧ Keep h0 h [t] ∧ Old Z n0 h ∧ Arv Z h b kb .char (Int32.ofNat cs.length) (cs.map Value.int) (.int 0) ∧ Arv Z h t kt .byte (Int32.ofNat (2 * cs.length)) ds (.int 0) ∧ own_enc cs ds (i + 1) ∧ own_J p e below T m 8 #[.val (.ref b), .val (.int (Int32.ofNat (i + 1))), .val (.int (Int32.ofNat cs.length)), .val (.ref t), .val (.int (Int32.ofNat (i + 1)))] [] B := by
 intro T h locs ds sl X eT NL Z1 K1 O1 v0 v1 v2 kK
 have k1 : own_J p e below T m 20 #[.val (.ref b), .val (.int (Int32.ofNat i)), .val (.int (Int32.ofNat cs.length)), .val (.ref t), .val (.int (Int32.ofNat i))] [(.int (cs.getD i 0)), (.int (Int32.ofNat i)), (.ref t)] B := fun t_ hh => kK t_ (by
  refine XS.iload X.here hx rfl (hb hby own_h159) rfl ?_
  refine XS.iloadN X.here hx rfl (hb hby own_h160) rfl ?_
  refine XS.icmpNo X.here hx rfl (hb hby own_h161) rfl (own_icF_ge ((own_lt32 (by omega) (by omega)).mpr (by omega))) ?_
  refine XS.aloadN X.here hx rfl (hb hby own_h162) rfl rfl ?_
  refine XS.iload X.here hx rfl (hb hby own_h163) rfl ?_
  refine XS.aloadN X.here hx rfl (hb hby own_h164) rfl rfl ?_
  refine XS.iloadN X.here hx rfl (hb hby own_h165) rfl ?_
  refine own_caload X hx hZ eT v0 (j := (Int32.ofNat i)) (v := (.int (cs.getD i 0))) ⟨(own_nneg (by omega)), ((own_lt32 (by omega) (by omega)).mpr (by omega))⟩ (own_atC cs (by omega)) (g := (mkF m 19 #[.val (.ref b), .val (.int (Int32.ofNat i)), .val (.int (Int32.ofNat cs.length)), .val (.ref t), .val (.int (Int32.ofNat i))] [(.int (Int32.ofNat i)), (.ref b), (.int (Int32.ofNat i)), (.ref t)])) rfl rfl (hb hby own_h166) _ ?_
  exact hh)
 obtain ⟨_, _, ⟨T72, L73, k_74, n_75⟩, -, X76, ⟨Lc77, hQ78, l_79, y_80, z_81⟩, st82⟩ := Jvm.LawKit.callS X hx (y := (⟨"java/lang/StringUTF16", "putChar", "([BII)V"⟩ : MethodName)) hown (mvT hZ (wT hw 98 rfl)) (mvT hZ (wT hw 99 rfl)) (mvT hZ (wT hw 39 rfl)) (mvT hZ (wT hw 100 rfl)) (by decide) (backOf (W := 0) (rmPut l Z a0 hw [] i (cs.getD i 0) t kt cs.length ds h n0 Z1 v1 h11 hi v2.1 gt O1 sA sH sL) hZ (wT hw 100 rfl) (wT hw 39 rfl) (by decide) (by decide)) (g := (mkF m 20 #[.val (.ref b), .val (.int (Int32.ofNat i)), .val (.int (Int32.ofNat cs.length)), .val (.ref t), .val (.int (Int32.ofNat i))] [(.int (cs.getD i 0)), (.int (Int32.ofNat i)), (.ref t)])) rfl (by rw [hml]; rfl) (argsL := [(.ref t), (.int (Int32.ofNat i)), (.int (cs.getD i 0))]) (rest := []) (lenOf own_h173 rfl) rfl (by show 2 * 0 + _ ≤ _; exact Nat.le_of_eq rfl) (hb hby own_h167) (fun _ _ => ⟨rfl, eT, own_l rfl, own_l rfl⟩)
 dsimp only [Pt.U, Pt.locs, Pt.cells, Pt.slots] at X76 l_79 y_80 z_81 st82 hQ78
 replace l_79 := l_79.symm
 subst l_79 y_80 z_81
 obtain ⟨rfl, N83, K85, F84, -⟩ := hQ78
 have N86 := Fr.app NL N83
 have F87 := v0.keep K85 (ninS nbt nin0)
 have Z88 : n0 ≤ T72.heap.size := Nat.le_trans Z1 K85.1
 have O89 := O1.keep K85 (allS gt all0)
 have P90 : Keep h0 T72.heap [t] := K1.trans K85 (allS (P := fun x => x ∈ [t] ∨ h0.size ≤ x) (Or.inl (List.mem_of_getElem? (i := 0) rfl)) all0)
 have e91 : T72.heap = T72.heap := rfl
 have k2 : own_J p e below T72 m 23 #[.val (.ref b), .val (.int (Int32.ofNat i)), .val (.int (Int32.ofNat cs.length)), .val (.ref t), .val (.int (Int32.ofNat i))] [] B := fun t_ hh => k1 t_ (st82 t_ hh)
 clear k1 st82
 have k3 : own_J p e below T72 m 8 #[.val (.ref b), .val (.int ((Int32.ofNat i) + (1 : Int32))), .val (.int (Int32.ofNat cs.length)), .val (.ref t), .val (.int ((Int32.ofNat i) + (1 : Int32)))] [] B := fun t_ hh => k2 t_ (by
  refine XS.iinc X76.here hx rfl (hb hby own_h168) rfl (l' := #[.val (.ref b), .val (.int ((Int32.ofNat i) + (1 : Int32))), .val (.int (Int32.ofNat cs.length)), .val (.ref t), .val (.int (Int32.ofNat i))]) rfl ?_
  refine XS.iinc X76.here hx rfl (hb hby own_h169) rfl (l' := #[.val (.ref b), .val (.int ((Int32.ofNat i) + (1 : Int32))), .val (.int (Int32.ofNat cs.length)), .val (.ref t), .val (.int ((Int32.ofNat i) + (1 : Int32)))]) rfl ?_
  refine XS.goto X76.here hx rfl (pc0 := 29) (pc' := 8) rfl (hb hby own_h170) (by decide) (by decide) ?_
  exact hh)
 clear k2
 rw [own_step32 (by omega)] at k3
 exact ⟨_, _, _, _, sl, X76, e91, N86, Z88, P90, O89, F87, F84, own_enc_step v2 hi, k3⟩
theorem own_tb_l {p : Program} {l : Launch} {e : Env} {s : State} {m : MethodId} {args : Array Value} {below : List Frame} {meth : Method} {c : Code} (Z : State) (a0 : Array Value) (hw : ∀ d ∈ tables_1, d.before a0 Z = true) (hx : p.tables.exec = Jvm.exec) (hby : c.code = jdk_52_method_14_code) (hml : c.maxLocals = 5) (hZ : Z.Warmed39 s.vm) (hown : s.vm.findClass "java/lang/StringUTF16" = some m.cls) (b t : Addr) (kb kt : ClassId) (cs : List Int32) (h0 : Heap) (n0 : Nat) (gt : n0 ≤ t) (nbt : b ≠ t) (h11 : cs.length ≤ 11) (B : State) (sA : Sta Z Z.heap "java/lang/StringUTF16" "$assertionsDisabled" "Z" (.int (1 : Int32))) (sH : Sta Z Z.heap "java/lang/StringUTF16" "HI_BYTE_SHIFT" "I" (.int (0 : Int32))) (sL : Sta Z Z.heap "java/lang/StringUTF16" "LO_BYTE_SHIFT" "I" (.int (8 : Int32))) : ∀ j, j ≤ cs.length → ∀ (T : State) (h : Heap) (locs : List Loc) (ds : List Value) (sl : Slot), Stand p l e (rO 3 1 22 60) s m args below meth c T locs 1 22 → T.heap = h → Fr n0 locs → n0 ≤ h.size → Keep h0 h [t] → Old Z n0 h → Arv Z h b kb .char (Int32.ofNat cs.length) (cs.map Value.int) (.int 0) → Arv Z h t kt .byte (Int32.ofNat (2 * cs.length)) ds (.int 0) → own_enc cs ds (cs.length - j) → own_J p e below T m 8 #[.val (.ref b), .val (.int (Int32.ofNat (cs.length - j))), .val (.int (Int32.ofNat cs.length)), .val (.ref t), .val (.int (Int32.ofNat (cs.length - j)))] [] B → ∃ (T : State) (h : Heap) (locs : List Loc) (ds : List Value) (sl : Slot), Stand p l e (rO 3 1 22 60) s m args below meth c T locs 1 22 ∧ T.heap = h ∧ Fr n0 locs ∧ n0 ≤ h.size ∧ Keep h0 h [t] ∧ Old Z n0 h ∧ Arv Z h b kb .char (Int32.ofNat cs.length) (cs.map Value.int) (.int 0) ∧ Arv Z h t kt .byte (Int32.ofNat (2 * cs.length)) ds (.int 0) ∧ own_enc cs ds cs.length ∧ own_J p e below T m 8 #[.val (.ref b), .val (.int (Int32.ofNat cs.length)), .val (.int (Int32.ofNat cs.length)), .val (.ref t), .val (.int (Int32.ofNat cs.length))] [] B := by
 intro j
 induction j with
 | zero => intro _ T h locs ds sl X eT NL Z1 K1 O1 v0 v1 v2 kK; exact ⟨T, h, locs, ds, sl, X, eT, NL, Z1, K1, O1, v0, v1, v2, kK⟩
 | succ j ih =>
  intro hj T h locs ds sl X eT NL Z1 K1 O1 v0 v1 v2 kK
  obtain ⟨T1, h1, locs1, ds1, sl1, X', eT', NL', Z1', K1', O1', v0', v1', v2', kK'⟩ := own_tb_t Z a0 hw hx hby hml hZ hown b t kb kt cs h0 n0 gt nbt h11 B sA sH sL (cs.length - (j + 1)) (by omega)  T h locs ds sl X eT NL Z1 K1 O1 v0 v1 v2 kK
  rw [show cs.length - (j + 1) + 1 = cs.length - j by omega] at v2' kK'
  exact ih (by omega) T1 h1 locs1 ds1 sl1 X' eT' NL' Z1' K1' O1' v0' v1' v2' kK'
def Q_rmCm (Z : State) (b : Addr) (kb : ClassId) (cs : List Int32) (t : Addr) (kt : ClassId) (ds : List Value) (k : Nat) (h0 : Heap) (n0 : Nat) (v : Option Value) (h : Heap) (L : List Loc) : Prop := v = some (.int (Int32.ofNat k)) ∧ Fr n0 L ∧ Keep h0 h [t] ∧ True
theorem rmCm (l : Launch) (Z : State) (a0 : Array Value) (hw : ∀ d ∈ tables_1, d.before a0 Z = true) (ws : List Jvm.Cond) (b : Addr) (kb : ClassId) (cs : List Int32) (t : Addr) (kt : ClassId) (ds : List Value) (k : Nat) (h0 : Heap) (n0 : Nat) (Z0 : n0 ≤ h0.size) (f0_ : Arv Z h0 b kb .char (Int32.ofNat cs.length) (cs.map Value.int) (.int 0)) (f1_ : Arv Z h0 t kt .byte (Int32.ofNat cs.length) ds (.int 0)) (hdl : ds.length = cs.length) (f3_ : n0 ≤ t) (f4_ : b ≠ t) (h11 : cs.length ≤ 11) (hk : k < cs.length) (hkb : (255 : Int32) < cs.getD k 0) (hlo : ∀ j, j < k → ¬ (255 : Int32) < cs.getD j 0) (f9_ : Old Z n0 h0)  :
    own_Met l (⟨"java/lang/StringUTF16", "compress", "([CI[BII)I"⟩ : MethodName) jdk_52_method_21_code 7 (some .int) ws (rO 0 0 0 0) #[(.ref b), (.int (0 : Int32)), (.ref t), (.int (0 : Int32)), (.int (Int32.ofNat cs.length))] Z h0 (Q_rmCm Z b kb cs t kt ds k h0 n0) := by
 refine MetFree.of_bodySF (plainFor_of_name own_h17) hisR ?_
 intro p e s m args below meth c s₁ Bd hml0 hP hK
 obtain ⟨rfl, hZ, hh⟩ := hP
 have hx := Bd.exec
 have hby := Bd.bytes
 have hml : c.maxLocals = 7 := hml0
 have hown : s.vm.findClass "java/lang/StringUTF16" = some m.cls := findClass_of_methodNamed Bd.named
 have hnm := (name_of_methodNamed Bd.named Bd.method).1
 have X0 : Stand p l e (rO 0 0 0 0) s m #[(.ref b), (.int (0 : Int32)), (.ref t), (.int (0 : Int32)), (.int (Int32.ofNat cs.length))] below meth c s₁ [] 0 0 := Stand.of_body Bd
 have e0 : s₁.heap = h0 := by rw [← hh, Bd.state]; rfl
 have N0 := Fr.nil n0
 obtain ⟨B_, hB_⟩ : ∃ z, z = s₁.setTop (entryFrame m #[(.ref b), (.int (0 : Int32)), (.ref t), (.int (0 : Int32)), (.int (Int32.ofNat cs.length))] 7) := ⟨_, rfl⟩
 have k0 : own_K p e below (s₁.setTop (mkF m 0 #[.val (.ref b), .val (.int (0 : Int32)), .val (.ref t), .val (.int (0 : Int32)), .val (.int (Int32.ofNat cs.length)), .unset, .unset] [])) B_ := by rw [hB_]; exact fun t k => castTop (by clear k; first | (simp [entryFrame, mkF, argsToLocals, Value.category, maxLocals]; done) | rfl) k
 have K0 : Keep h0 h0 [t] := Keep.refl _ _
 have k1 : own_J p e below s₁ m 3 #[.val (.ref b), .val (.int (0 : Int32)), .val (.ref t), .val (.int (0 : Int32)), .val (.int (Int32.ofNat cs.length)), .val (.int (0 : Int32)), .unset] [] B_ := fun t_ hh => k0 t_ (by
  refine XS.iconst X0.here hx rfl (hb hby own_h129) ?_
  refine XS.istore X0.here hx rfl (hb hby own_h130) rfl (l' := #[.val (.ref b), .val (.int (0 : Int32)), .val (.ref t), .val (.int (0 : Int32)), .val (.int (Int32.ofNat cs.length)), .val (.int (0 : Int32)), .unset]) rfl ?_
  exact hh)
 have kk21 : own_J p e below s₁ m 3 #[.val (.ref b), .val (.int (Int32.ofNat (k - k))), .val (.ref t), .val (.int (Int32.ofNat (k - k))), .val (.int (Int32.ofNat cs.length)), .val (.int (Int32.ofNat (k - k))), .unset] [] B_ := by rw [Nat.sub_self]; exact k1
 obtain ⟨T22, h23, L24, ds25, sl26, X27, e28, N29, Z30, K31, O32, v33, v34, v35, v36, kk37⟩ := own_cm_l Z a0 hw hx hby hml hZ hown b t kb kt cs h0 n0 f3_ f4_ h11 _ k hk hlo k (Nat.le_refl _) s₁ h0 _ ds .unset X0 e0 N0 Z0 (Keep.refl _ _) f9_ f0_ f1_ hdl (Or.inl rfl) kk21
 have P38 : Keep h0 h23 [t] := K0.trans K31 (allS (P := fun x => x ∈ [t] ∨ h0.size ≤ x) (Or.inl (List.mem_of_getElem? (i := 0) rfl)) all0)
 have k2 : own_J p e below T22 m 25 #[.val (.ref b), .val (.int (Int32.ofNat k)), .val (.ref t), .val (.int (Int32.ofNat k)), .val (.int (Int32.ofNat cs.length)), .val (.int (Int32.ofNat k)), .val (.int (cs.getD k 0))] [(.int (Int32.ofNat k))] B_ := fun t_ hh => kk37 t_ (by
  refine XS.iload X27.here hx rfl (hb hby own_h131) rfl ?_
  refine XS.iload X27.here hx rfl (hb hby own_h132) rfl ?_
  refine XS.icmpNo X27.here hx rfl (hb hby own_h133) rfl (own_icF_ge ((own_lt32 (by omega) (by omega)).mpr hk)) ?_
  refine XS.aloadN X27.here hx rfl (hb hby own_h134) rfl rfl ?_
  refine XS.iloadN X27.here hx rfl (hb hby own_h135) rfl ?_
  refine own_caload X27 hx hZ e28 v33 (j := (Int32.ofNat k)) (v := (.int (cs.getD k 0))) ⟨(own_nneg (by omega)), ((own_lt32 (by omega) (by omega)).mpr (by omega))⟩ (own_atC cs (by omega)) (g := (mkF m 12 #[.val (.ref b), .val (.int (Int32.ofNat k)), .val (.ref t), .val (.int (Int32.ofNat k)), .val (.int (Int32.ofNat cs.length)), .val (.int (Int32.ofNat k)), sl26] [(.int (Int32.ofNat k)), (.ref b)])) rfl rfl (hb hby own_h136) _ ?_
  refine XS.istore X27.here hx rfl (hb hby own_h137) rfl (l' := #[.val (.ref b), .val (.int (Int32.ofNat k)), .val (.ref t), .val (.int (Int32.ofNat k)), .val (.int (Int32.ofNat cs.length)), .val (.int (Int32.ofNat k)), .val (.int (cs.getD k 0))]) (by rcases v36 with rfl | ⟨x, rfl⟩ <;> rfl) ?_
  refine XS.iload X27.here hx rfl (hb hby own_h138) rfl ?_
  refine XS.sipush X27.here hx rfl (hb hby own_h139) ?_
  refine XS.icmpNo X27.here hx rfl (hb hby own_h140) rfl (own_icF_le hkb) ?_
  refine XS.iload X27.here hx rfl (hb hby own_h141) rfl ?_
  exact hh)
 clear kk37
 obtain ⟨fs, hr, hrun, hended, hW, hsame⟩ := X27.leave (v := some (.int (Int32.ofNat k))) (fun h => by rw [Bd.returns] at h; cases h)
 refine ⟨_, _, (own_from hB_ (k2 _ (retOut X27 hx (t := .int) Bd.returns rfl (Or.inl ⟨rfl, (by simp), _, rfl⟩) (hb hby own_h142) hr))), hrun, hended, _, _, rfl, ?_, ⟨_, rfl⟩, hW, hsame.mono (own_l rfl) (own_l rfl)⟩
 show Q_rmCm Z b kb cs t kt ds k h0 n0 _ T22.heap _
 rw [e28]
 exact ⟨rfl, N29, P38, trivial⟩
def Q_rmTb (Z : State) (b : Addr) (kb : ClassId) (cs : List Int32) (h0 : Heap) (n0 : Nat) (v : Option Value) (h : Heap) (L : List Loc) : Prop := ∃ t : Addr, ∃ kt : ClassId, ∃ ds : List Value, v = some (.ref t) ∧ Fr n0 L ∧ Keep h0 h [] ∧ Arv Z h t kt .byte (Int32.ofNat (2 * cs.length)) ds (.int 0) ∧ own_enc cs ds cs.length ∧ n0 ≤ t ∧ h0.size ≤ t ∧ True
theorem own_h174 : parseMethodDescriptor "(I)[B" = some ⟨[.int], some (.array .byte)⟩ := by decide +kernel
theorem rmTb (l : Launch) (Z : State) (a0 : Array Value) (hw : ∀ d ∈ tables_1, d.before a0 Z = true) (ws : List Jvm.Cond) (b : Addr) (kb : ClassId) (cs : List Int32) (h0 : Heap) (n0 : Nat) (Z0 : n0 ≤ h0.size) (f0_ : Arv Z h0 b kb .char (Int32.ofNat cs.length) (cs.map Value.int) (.int 0)) (h11 : cs.length ≤ 11) (f2_ : Old Z n0 h0) (sA : Sta Z Z.heap "java/lang/StringUTF16" "$assertionsDisabled" "Z" (.int (1 : Int32))) (sH : Sta Z Z.heap "java/lang/StringUTF16" "HI_BYTE_SHIFT" "I" (.int (0 : Int32))) (sL : Sta Z Z.heap "java/lang/StringUTF16" "LO_BYTE_SHIFT" "I" (.int (8 : Int32))) :
    own_Met l (⟨"java/lang/StringUTF16", "toBytes", "([CII)[B"⟩ : MethodName) jdk_52_method_14_code 5 (some (.array .byte)) ws (rO 3 1 22 60) #[(.ref b), (.int (0 : Int32)), (.int (Int32.ofNat cs.length))] Z h0 (Q_rmTb Z b kb cs h0 n0) := by
 refine MetFree.of_bodySF (plainFor_of_name own_h17) hisR ?_
 intro p e s m args below meth c s₁ Bd hml0 hP hK
 obtain ⟨rfl, hZ, hh⟩ := hP
 have hx := Bd.exec
 have hby := Bd.bytes
 have hml : c.maxLocals = 5 := hml0
 have hown : s.vm.findClass "java/lang/StringUTF16" = some m.cls := findClass_of_methodNamed Bd.named
 have hnm := (name_of_methodNamed Bd.named Bd.method).1
 have X0 : Stand p l e (rO 3 1 22 60) s m #[(.ref b), (.int (0 : Int32)), (.int (Int32.ofNat cs.length))] below meth c s₁ [] 0 0 := Stand.of_body Bd
 have e0 : s₁.heap = h0 := by rw [← hh, Bd.state]; rfl
 have N0 := Fr.nil n0
 obtain ⟨B_, hB_⟩ : ∃ z, z = s₁.setTop (entryFrame m #[(.ref b), (.int (0 : Int32)), (.int (Int32.ofNat cs.length))] 5) := ⟨_, rfl⟩
 have k0 : own_K p e below (s₁.setTop (mkF m 0 #[.val (.ref b), .val (.int (0 : Int32)), .val (.int (Int32.ofNat cs.length)), .unset, .unset] [])) B_ := by rw [hB_]; exact fun t k => castTop (by clear k; first | (simp [entryFrame, mkF, argsToLocals, Value.category, maxLocals]; done) | rfl) k
 have K0 : Keep h0 h0 [] := Keep.refl _ _
 have k1 : own_J p e below s₁ m 1 #[.val (.ref b), .val (.int (0 : Int32)), .val (.int (Int32.ofNat cs.length)), .unset, .unset] [(.int (Int32.ofNat cs.length))] B_ := fun t_ hh => k0 t_ (by
  refine XS.iloadN X0.here hx rfl (hb hby own_h154) rfl ?_
  exact hh)
 obtain ⟨_, _, ⟨T21, L22, k_23, n_24⟩, -, X25, ⟨Lc26, hQ27, l_28, y_29, z_30⟩, st31⟩ := Jvm.LawKit.callS X0 hx (y := (⟨"java/lang/StringUTF16", "newBytesFor", "(I)[B"⟩ : MethodName)) hown (mvT hZ (wT hw 91 rfl)) (mvT hZ (wT hw 92 rfl)) (mvT hZ (wT hw 39 rfl)) (mvT hZ (wT hw 93 rfl)) (by decide) (backOf (W := 0) (rmNbf l Z a0 hw [] cs.length h0 n0 Z0 h11 ) hZ (wT hw 93 rfl) (wT hw 39 rfl) (by decide) (by decide)) (g := (mkF m 1 #[.val (.ref b), .val (.int (0 : Int32)), .val (.int (Int32.ofNat cs.length)), .unset, .unset] [(.int (Int32.ofNat cs.length))])) rfl (by rw [hml]; rfl) (argsL := [(.int (Int32.ofNat cs.length))]) (rest := []) (lenOf own_h174 rfl) rfl (by show 2 * 0 + _ ≤ _; exact Nat.le_of_eq rfl) (hb hby own_h155) (fun _ _ => ⟨rfl, e0, own_l rfl, own_l rfl⟩)
 dsimp only [Pt.U, Pt.locs, Pt.cells, Pt.slots] at X25 l_28 y_29 z_30 st31 hQ27
 replace l_28 := l_28.symm
 subst l_28 y_29 z_30
 obtain ⟨t33, kt34, rfl, N32, K38, F35, F36, F37, -⟩ := hQ27
 have N39 := Fr.app N0 N32
 have H040 : h0.size ≤ t33 := Nat.le_trans K0.1 F37
 have F41 := f0_.keep K38 nin0
 have Z42 : n0 ≤ T21.heap.size := Nat.le_trans Z0 K38.1
 have O43 := f2_.keep K38 all0
 have P44 : Keep h0 T21.heap [] := K0.trans K38 (fun _ q => nomatch q)
 have e45 : T21.heap = T21.heap := rfl
 have k2 : own_J p e below T21 m 4 #[.val (.ref b), .val (.int (0 : Int32)), .val (.int (Int32.ofNat cs.length)), .unset, .unset] [(.ref t33)] B_ := fun t_ hh => k1 t_ (st31 t_ hh)
 clear k1 st31
 have k3 : own_J p e below T21 m 8 #[.val (.ref b), .val (.int (0 : Int32)), .val (.int (Int32.ofNat cs.length)), .val (.ref t33), .val (.int (0 : Int32))] [] B_ := fun t_ hh => k2 t_ (by
  refine XS.astoreN X25.here hx rfl (hb hby own_h156) rfl rfl (l' := #[.val (.ref b), .val (.int (0 : Int32)), .val (.int (Int32.ofNat cs.length)), .val (.ref t33), .unset]) rfl ?_
  refine XS.iconst X25.here hx rfl (hb hby own_h157) ?_
  refine XS.istore X25.here hx rfl (hb hby own_h158) rfl (l' := #[.val (.ref b), .val (.int (0 : Int32)), .val (.int (Int32.ofNat cs.length)), .val (.ref t33), .val (.int (0 : Int32))]) rfl ?_
  exact hh)
 clear k2
 have kk46 : own_J p e below T21 m 8 #[.val (.ref b), .val (.int (Int32.ofNat (cs.length - cs.length))), .val (.int (Int32.ofNat cs.length)), .val (.ref t33), .val (.int (Int32.ofNat (cs.length - cs.length)))] [] B_ := by rw [Nat.sub_self]; exact k3
 have ne62 : b ≠ t33 := Nat.ne_of_lt (Nat.lt_of_lt_of_le f0_.lt F37)
 obtain ⟨T47, h48, L49, ds50, sl51, X52, e53, N54, Z55, K56, O57, v58, v59, v60, kk61⟩ := own_tb_l Z a0 hw hx hby hml hZ hown b t33 kb kt34 cs T21.heap n0 F36 ne62 h11 _ sA sH sL cs.length (Nat.le_refl _) T21 T21.heap _ (List.replicate (2 * cs.length) (.int (0 : Int32))) .unset X25 e45 N39 Z42 (Keep.refl _ _) O43 F41 F35 (by rw [Nat.sub_self]; exact own_enc0 cs _) kk46
 have P63 : Keep h0 h48 [] := P44.trans K56 (allS (P := fun x => x ∈ [] ∨ h0.size ≤ x) (Or.inr H040) all0)
 have k4 : own_J p e below T47 m 33 #[.val (.ref b), .val (.int (Int32.ofNat cs.length)), .val (.int (Int32.ofNat cs.length)), .val (.ref t33), .val (.int (Int32.ofNat cs.length))] [(.ref t33)] B_ := fun t_ hh => kk61 t_ (by
  refine XS.iload X52.here hx rfl (hb hby own_h159) rfl ?_
  refine XS.iloadN X52.here hx rfl (hb hby own_h160) rfl ?_
  refine XS.icmpYes X52.here hx rfl (pc0 := 11) (pc' := 32) rfl (hb hby own_h161) rfl (own_icT_ge (fun q => absurd ((own_lt32 (by omega) (by omega)).mp q) (by omega))) (by decide) (by decide) ?_
  refine XS.aloadN X52.here hx rfl (hb hby own_h171) rfl rfl ?_
  exact hh)
 clear kk61
 obtain ⟨fs, hr, hrun, hended, hW, hsame⟩ := X52.leave (v := some (.ref t33)) (fun h => by rw [Bd.returns] at h; cases h)
 refine ⟨_, _, (own_from hB_ (k4 _ (retOut X52 hx (t := .array .byte) Bd.returns rfl (Or.inr (Or.inr (Or.inr (Or.inr ⟨rfl, rfl, rfl⟩)))) (hb hby own_h172) hr))), hrun, hended, _, _, rfl, ?_, ⟨_, rfl⟩, hW, hsame.mono (own_l rfl) (own_l rfl)⟩
 show Q_rmTb Z b kb cs h0 n0 _ T47.heap _
 rw [e53]
 exact ⟨t33, kt34, ds50, rfl, N54, P63, v59, v60, F36, H040, trivial⟩
def Q_rmC2 (Z : State) (b : Addr) (kb : ClassId) (cs : List Int32) (k : Nat) (h0 : Heap) (n0 : Nat) (v : Option Value) (h : Heap) (L : List Loc) : Prop := ∃ t : Addr, ∃ kt : ClassId, ∃ ds : List Value, v = some (.ref t) ∧ Fr n0 L ∧ Keep h0 h [] ∧ Arv Z h t kt .byte (Int32.ofNat (2 * cs.length)) ds (.int 0) ∧ own_enc cs ds cs.length ∧ n0 ≤ t ∧ h0.size ≤ t ∧ True
theorem own_h175 : decode jdk_52_method_16_code 0 = .ok (.iload_n 2, 1) := by decide +kernel
theorem own_h176 : decode jdk_52_method_16_code 1 = .ok (.newarray .byte, 2) := by decide +kernel
theorem own_h177 : decode jdk_52_method_16_code 3 = .ok (.astore_n 3, 1) := by decide +kernel
theorem own_h178 : decode jdk_52_method_16_code 4 = .ok (.aload_n 0, 1) := by decide +kernel
theorem own_h179 : decode jdk_52_method_16_code 5 = .ok (.iload_n 1, 1) := by decide +kernel
theorem own_h180 : decode jdk_52_method_16_code 6 = .ok (.aload_n 3, 1) := by decide +kernel
theorem own_h181 : decode jdk_52_method_16_code 7 = .ok (.iconst 0, 1) := by decide +kernel
theorem own_h182 : decode jdk_52_method_16_code 8 = .ok (.iload_n 2, 1) := by decide +kernel
theorem own_h183 : decode jdk_52_method_16_code 9 = .ok (.invokestatic 115, 3) := by decide +kernel
theorem own_h184 : parseMethodDescriptor "([CI[BII)I" = some ⟨[.array .char, .int, .array .byte, .int, .int], some .int⟩ := by decide +kernel
theorem own_h185 : decode jdk_52_method_16_code 12 = .ok (.istore 4, 2) := by decide +kernel
theorem own_h186 : decode jdk_52_method_16_code 14 = .ok (.iload 4, 2) := by decide +kernel
theorem own_h187 : decode jdk_52_method_16_code 16 = .ok (.iload_n 2, 1) := by decide +kernel
theorem own_h188 : decode jdk_52_method_16_code 17 = .ok (.if_icmp .eq 40, 3) := by decide +kernel
theorem own_h189 : decode jdk_52_method_16_code 20 = .ok (.aload_n 0, 1) := by decide +kernel
theorem own_h190 : decode jdk_52_method_16_code 21 = .ok (.iload_n 1, 1) := by decide +kernel
theorem own_h191 : decode jdk_52_method_16_code 22 = .ok (.iload_n 2, 1) := by decide +kernel
theorem own_h192 : decode jdk_52_method_16_code 23 = .ok (.invokestatic 119, 3) := by decide +kernel
theorem own_h193 : parseMethodDescriptor "([CII)[B" = some ⟨[.array .char, .int, .int], some (.array .byte)⟩ := by decide +kernel
theorem own_h194 : decode jdk_52_method_16_code 26 = .ok (.astore 5, 2) := by decide +kernel
theorem own_h195 : decode jdk_52_method_16_code 28 = .ok (.aload 5, 2) := by decide +kernel
theorem own_h196 : decode jdk_52_method_16_code 30 = .ok (.iload 4, 2) := by decide +kernel
theorem own_h197 : decode jdk_52_method_16_code 32 = .ok (.invokestatic 71, 3) := by decide +kernel
theorem own_h198 : decode jdk_52_method_16_code 35 = .ok (.sipush 255, 3) := by decide +kernel
theorem own_h199 : decode jdk_52_method_16_code 38 = .ok (.if_icmp .gt 16, 3) := by decide +kernel
theorem own_h200 : decode jdk_52_method_16_code 54 = .ok (.aload 5, 2) := by decide +kernel
theorem own_h201 : decode jdk_52_method_16_code 56 = .ok (.areturn, 1) := by decide +kernel
theorem rmC2 (l : Launch) (Z : State) (a0 : Array Value) (hw : ∀ d ∈ tables_1, d.before a0 Z = true) (ws : List Jvm.Cond) (b : Addr) (kb : ClassId) (cs : List Int32) (k : Nat) (h0 : Heap) (n0 : Nat) (Z0 : n0 ≤ h0.size) (f0_ : Arv Z h0 b kb .char (Int32.ofNat cs.length) (cs.map Value.int) (.int 0)) (h11 : cs.length ≤ 11) (hch : own_chs cs) (hk : k < cs.length) (hkb : (255 : Int32) < cs.getD k 0) (hlo : ∀ j, j < k → ¬ (255 : Int32) < cs.getD j 0) (f6_ : Old Z n0 h0) (sA : Sta Z Z.heap "java/lang/StringUTF16" "$assertionsDisabled" "Z" (.int (1 : Int32))) (sH : Sta Z Z.heap "java/lang/StringUTF16" "HI_BYTE_SHIFT" "I" (.int (0 : Int32))) (sL : Sta Z Z.heap "java/lang/StringUTF16" "LO_BYTE_SHIFT" "I" (.int (8 : Int32))) :
    own_Met l (⟨"java/lang/StringUTF16", "compress", "([CII)[B"⟩ : MethodName) jdk_52_method_16_code 6 (some (.array .byte)) ws (rO 4 2 33 76) #[(.ref b), (.int (0 : Int32)), (.int (Int32.ofNat cs.length))] Z h0 (Q_rmC2 Z b kb cs k h0 n0) := by
 refine MetFree.of_bodySF (plainFor_of_name own_h17) hisR ?_
 intro p e s m args below meth c s₁ Bd hml0 hP hK
 obtain ⟨rfl, hZ, hh⟩ := hP
 have hx := Bd.exec
 have hby := Bd.bytes
 have hml : c.maxLocals = 6 := hml0
 have hown : s.vm.findClass "java/lang/StringUTF16" = some m.cls := findClass_of_methodNamed Bd.named
 have hnm := (name_of_methodNamed Bd.named Bd.method).1
 have X0 : Stand p l e (rO 4 2 33 76) s m #[(.ref b), (.int (0 : Int32)), (.int (Int32.ofNat cs.length))] below meth c s₁ [] 0 0 := Stand.of_body Bd
 have e0 : s₁.heap = h0 := by rw [← hh, Bd.state]; rfl
 have N0 := Fr.nil n0
 obtain ⟨B_, hB_⟩ : ∃ z, z = s₁.setTop (entryFrame m #[(.ref b), (.int (0 : Int32)), (.int (Int32.ofNat cs.length))] 6) := ⟨_, rfl⟩
 have k0 : own_K p e below (s₁.setTop (mkF m 0 #[.val (.ref b), .val (.int (0 : Int32)), .val (.int (Int32.ofNat cs.length)), .unset, .unset, .unset] [])) B_ := by rw [hB_]; exact fun t k => castTop (by clear k; first | (simp [entryFrame, mkF, argsToLocals, Value.category, maxLocals]; done) | rfl) k
 have K0 : Keep h0 h0 [] := Keep.refl _ _
 have k1 : own_J p e below s₁ m 1 #[.val (.ref b), .val (.int (0 : Int32)), .val (.int (Int32.ofNat cs.length)), .unset, .unset, .unset] [(.int (Int32.ofNat cs.length))] B_ := fun t_ hh => k0 t_ (by
  refine XS.iloadN X0.here hx rfl (hb hby own_h175) rfl ?_
  exact hh)
 obtain ⟨T21, h22, kA23, X24, e25, E26, A27, st29⟩ := newP X0 hx hZ (wT hw 41 rfl) e0 (g := (mkF m 1 #[.val (.ref b), .val (.int (0 : Int32)), .val (.int (Int32.ofNat cs.length)), .unset, .unset, .unset] [(.int (Int32.ofNat cs.length))])) rfl (hb hby own_h176) rfl (own_nneg (by omega)) (cap := 11) (by rw [own_natC (by omega)]; omega) (by decide) (by decide) (by decide)
 obtain ⟨a30, g31⟩ : ∃ z, z = h0.size := ⟨_, rfl⟩
 rw [← g31] at A27 st29
 have H032 : h0.size ≤ a30 := Nat.le_trans K0.1 (Nat.le_of_eq g31.symm)
 have G33 : n0 ≤ a30 := Nat.le_trans Z0 (Nat.le_of_eq g31.symm)
 have F34 := f0_.ext E26
 have Z35 : n0 ≤ h22.size := Nat.le_trans Z0 E26.1
 have O36 := f6_.ext E26
 have P37 : Keep h0 h22 [] := K0.ext E26
 have V38 : Arv Z h22 a30 kA23 .byte (Int32.ofNat cs.length) (List.replicate cs.length (.int (0 : Int32))) (.int (0 : Int32)) := Arv.pad (Arv.new A27 (own_nneg (by omega))) (pad_rep [] (.int (0 : Int32)) cs.length)
 have k2 : own_J p e below T21 m 3 #[.val (.ref b), .val (.int (0 : Int32)), .val (.int (Int32.ofNat cs.length)), .unset, .unset, .unset] [(.ref a30)] B_ := fun t_ hh => k1 t_ (st29 t_ hh)
 clear k1 st29
 have k3 : own_J p e below T21 m 9 #[.val (.ref b), .val (.int (0 : Int32)), .val (.int (Int32.ofNat cs.length)), .val (.ref a30), .unset, .unset] [(.int (Int32.ofNat cs.length)), (.int (0 : Int32)), (.ref a30), (.int (0 : Int32)), (.ref b)] B_ := fun t_ hh => k2 t_ (by
  refine XS.astoreN X24.here hx rfl (hb hby own_h177) rfl rfl (l' := #[.val (.ref b), .val (.int (0 : Int32)), .val (.int (Int32.ofNat cs.length)), .val (.ref a30), .unset, .unset]) rfl ?_
  refine XS.aloadN X24.here hx rfl (hb hby own_h178) rfl rfl ?_
  refine XS.iloadN X24.here hx rfl (hb hby own_h179) rfl ?_
  refine XS.aloadN X24.here hx rfl (hb hby own_h180) rfl rfl ?_
  refine XS.iconst X24.here hx rfl (hb hby own_h181) ?_
  refine XS.iloadN X24.here hx rfl (hb hby own_h182) rfl ?_
  exact hh)
 clear k2
 have ne50 : b ≠ a30 := by rw [g31]; exact Nat.ne_of_lt f0_.lt
 obtain ⟨_, _, ⟨T39, L40, k_41, n_42⟩, -, X43, ⟨Lc44, hQ45, l_46, y_47, z_48⟩, st49⟩ := Jvm.LawKit.callS X24 hx (y := (⟨"java/lang/StringUTF16", "compress", "([CI[BII)I"⟩ : MethodName)) hown (mvT hZ (wT hw 42 rfl)) (mvT hZ (wT hw 43 rfl)) (mvT hZ (wT hw 39 rfl)) (mvT hZ (wT hw 44 rfl)) (by decide) (backOf (W := 0) (rmCm l Z a0 hw [] b kb cs a30 kA23 (List.replicate cs.length (.int (0 : Int32))) k h22 n0 Z35 F34 V38 (by simp) G33 ne50 h11 hk hkb hlo O36 ) hZ (wT hw 44 rfl) (wT hw 39 rfl) (by decide) (by decide)) (g := (mkF m 9 #[.val (.ref b), .val (.int (0 : Int32)), .val (.int (Int32.ofNat cs.length)), .val (.ref a30), .unset, .unset] [(.int (Int32.ofNat cs.length)), (.int (0 : Int32)), (.ref a30), (.int (0 : Int32)), (.ref b)])) rfl (by rw [hml]; rfl) (argsL := [(.ref b), (.int (0 : Int32)), (.ref a30), (.int (0 : Int32)), (.int (Int32.ofNat cs.length))]) (rest := []) (lenOf own_h184 rfl) rfl (by show 2 * 0 + _ ≤ _; exact Nat.le_of_eq rfl) (hb hby own_h183) (fun _ _ => ⟨rfl, e25, own_l rfl, own_l rfl⟩)
 dsimp only [Pt.U, Pt.locs, Pt.cells, Pt.slots] at X43 l_46 y_47 z_48 st49 hQ45
 replace l_46 := l_46.symm
 subst l_46 y_47 z_48
 obtain ⟨rfl, N51, K52, -⟩ := hQ45
 have N53 := Fr.app N0 N51
 have F54 := F34.keep K52 (ninS ne50 nin0)
 have Z55 : n0 ≤ T39.heap.size := Nat.le_trans Z35 K52.1
 have O56 := O36.keep K52 (allS G33 all0)
 have P57 : Keep h0 T39.heap [] := P37.trans K52 (allS (P := fun x => x ∈ [] ∨ h0.size ≤ x) (Or.inr H032) all0)
 have e58 : T39.heap = T39.heap := rfl
 have k4 : own_J p e below T39 m 12 #[.val (.ref b), .val (.int (0 : Int32)), .val (.int (Int32.ofNat cs.length)), .val (.ref a30), .unset, .unset] [(.int (Int32.ofNat k))] B_ := fun t_ hh => k3 t_ (st49 t_ hh)
 clear k3 st49 X24 e25
 have k5 : own_J p e below T39 m 23 #[.val (.ref b), .val (.int (0 : Int32)), .val (.int (Int32.ofNat cs.length)), .val (.ref a30), .val (.int (Int32.ofNat k)), .unset] [(.int (Int32.ofNat cs.length)), (.int (0 : Int32)), (.ref b)] B_ := fun t_ hh => k4 t_ (by
  refine XS.istore X43.here hx rfl (hb hby own_h185) rfl (l' := #[.val (.ref b), .val (.int (0 : Int32)), .val (.int (Int32.ofNat cs.length)), .val (.ref a30), .val (.int (Int32.ofNat k)), .unset]) rfl ?_
  refine XS.iload X43.here hx rfl (hb hby own_h186) rfl ?_
  refine XS.iloadN X43.here hx rfl (hb hby own_h187) rfl ?_
  refine XS.icmpNo X43.here hx rfl (hb hby own_h188) rfl (own_icF_eq (own_ne32 (by omega) (by omega) (by omega))) ?_
  refine XS.aloadN X43.here hx rfl (hb hby own_h189) rfl rfl ?_
  refine XS.iloadN X43.here hx rfl (hb hby own_h190) rfl ?_
  refine XS.iloadN X43.here hx rfl (hb hby own_h191) rfl ?_
  exact hh)
 clear k4
 obtain ⟨_, _, ⟨T59, L60, k_61, n_62⟩, -, X63, ⟨Lc64, hQ65, l_66, y_67, z_68⟩, st69⟩ := Jvm.LawKit.callS X43 hx (y := (⟨"java/lang/StringUTF16", "toBytes", "([CII)[B"⟩ : MethodName)) hown (mvT hZ (wT hw 88 rfl)) (mvT hZ (wT hw 89 rfl)) (mvT hZ (wT hw 39 rfl)) (mvT hZ (wT hw 90 rfl)) (by decide) (backOf (W := 0) (rmTb l Z a0 hw [] b kb cs T39.heap n0 Z55 F54 h11 O56 sA sH sL) hZ (wT hw 90 rfl) (wT hw 39 rfl) (by decide) (by decide)) (g := (mkF m 23 #[.val (.ref b), .val (.int (0 : Int32)), .val (.int (Int32.ofNat cs.length)), .val (.ref a30), .val (.int (Int32.ofNat k)), .unset] [(.int (Int32.ofNat cs.length)), (.int (0 : Int32)), (.ref b)])) rfl (by rw [hml]; rfl) (argsL := [(.ref b), (.int (0 : Int32)), (.int (Int32.ofNat cs.length))]) (rest := []) (lenOf own_h193 rfl) rfl (by show 2 * 0 + _ ≤ _; exact Nat.le_of_eq rfl) (hb hby own_h192) (fun _ _ => ⟨rfl, e58, own_l rfl, own_l rfl⟩)
 dsimp only [Pt.U, Pt.locs, Pt.cells, Pt.slots] at X63 l_66 y_67 z_68 st69 hQ65
 replace l_66 := l_66.symm
 subst l_66 y_67 z_68
 obtain ⟨t71, kt72, ds73, rfl, N70, K78, F74, F75, F76, F77, -⟩ := hQ65
 have N79 := Fr.app N53 N70
 have H080 : h0.size ≤ t71 := Nat.le_trans P57.1 F77
 have F81 := F54.keep K78 nin0
 have Z82 : n0 ≤ T59.heap.size := Nat.le_trans Z55 K78.1
 have O83 := O56.keep K78 all0
 have P84 : Keep h0 T59.heap [] := P57.trans K78 (fun _ q => nomatch q)
 have e85 : T59.heap = T59.heap := rfl
 have k6 : own_J p e below T59 m 26 #[.val (.ref b), .val (.int (0 : Int32)), .val (.int (Int32.ofNat cs.length)), .val (.ref a30), .val (.int (Int32.ofNat k)), .unset] [(.ref t71)] B_ := fun t_ hh => k5 t_ (st69 t_ hh)
 clear k5 st69 X43 e58
 have k7 : own_J p e below T59 m 32 #[.val (.ref b), .val (.int (0 : Int32)), .val (.int (Int32.ofNat cs.length)), .val (.ref a30), .val (.int (Int32.ofNat k)), .val (.ref t71)] [(.int (Int32.ofNat k)), (.ref t71)] B_ := fun t_ hh => k6 t_ (by
  refine XS.astore X63.here hx rfl (hb hby own_h194) rfl rfl (l' := #[.val (.ref b), .val (.int (0 : Int32)), .val (.int (Int32.ofNat cs.length)), .val (.ref a30), .val (.int (Int32.ofNat k)), .val (.ref t71)]) rfl ?_
  refine XS.aload X63.here hx rfl (hb hby own_h195) rfl rfl ?_
  refine XS.iload X63.here hx rfl (hb hby own_h196) rfl ?_
  exact hh)
 clear k6
 obtain ⟨_, _, ⟨T86, L87, k_88, n_89⟩, -, X90, ⟨Lc91, hQ92, l_93, y_94, z_95⟩, st96⟩ := Jvm.LawKit.callS X63 hx (y := (⟨"java/lang/StringUTF16", "getChar", "([BI)C"⟩ : MethodName)) hown (mvT hZ (wT hw 104 rfl)) (mvT hZ (wT hw 105 rfl)) (mvT hZ (wT hw 39 rfl)) (mvT hZ (wT hw 106 rfl)) (by decide) (backOf (W := 0) (rmGch l Z a0 hw [] k (cs.getD k 0) t71 kt72 cs.length ds73 T59.heap n0 Z82 F74 h11 hk O83 (F75.2 k hk).1 (F75.2 k hk).2 (own_chD hch hk).1 (own_chD hch hk).2 sA sH sL) hZ (wT hw 106 rfl) (wT hw 39 rfl) (by decide) (by decide)) (g := (mkF m 32 #[.val (.ref b), .val (.int (0 : Int32)), .val (.int (Int32.ofNat cs.length)), .val (.ref a30), .val (.int (Int32.ofNat k)), .val (.ref t71)] [(.int (Int32.ofNat k)), (.ref t71)])) rfl (by rw [hml]; rfl) (argsL := [(.ref t71), (.int (Int32.ofNat k))]) (rest := []) (lenOf own_h83 rfl) rfl (by show 2 * 0 + _ ≤ _; exact Nat.le_of_eq rfl) (hb hby own_h197) (fun _ _ => ⟨rfl, e85, own_l rfl, own_l rfl⟩)
 dsimp only [Pt.U, Pt.locs, Pt.cells, Pt.slots] at X90 l_93 y_94 z_95 st96 hQ92
 replace l_93 := l_93.symm
 subst l_93 y_94 z_95
 obtain ⟨rfl, N97, e98⟩ := hQ92
 have N99 := Fr.app N79 N97
 have k8 : own_J p e below T86 m 35 #[.val (.ref b), .val (.int (0 : Int32)), .val (.int (Int32.ofNat cs.length)), .val (.ref a30), .val (.int (Int32.ofNat k)), .val (.ref t71)] [(.int (cs.getD k 0))] B_ := fun t_ hh => k7 t_ (st96 t_ hh)
 clear k7 st96 X63 e85
 have k9 : own_J p e below T86 m 56 #[.val (.ref b), .val (.int (0 : Int32)), .val (.int (Int32.ofNat cs.length)), .val (.ref a30), .val (.int (Int32.ofNat k)), .val (.ref t71)] [(.ref t71)] B_ := fun t_ hh => k8 t_ (by
  refine XS.sipush X90.here hx rfl (hb hby own_h198) ?_
  refine XS.icmpYes X90.here hx rfl (pc0 := 38) (pc' := 54) rfl (hb hby own_h199) rfl (own_icT_gt hkb) (by decide) (by decide) ?_
  refine XS.aload X90.here hx rfl (hb hby own_h200) rfl rfl ?_
  exact hh)
 clear k8
 obtain ⟨fs, hr, hrun, hended, hW, hsame⟩ := X90.leave (v := some (.ref t71)) (fun h => by rw [Bd.returns] at h; cases h)
 refine ⟨_, _, (own_from hB_ (k9 _ (retOut X90 hx (t := .array .byte) Bd.returns rfl (Or.inr (Or.inr (Or.inr (Or.inr ⟨rfl, rfl, rfl⟩)))) (hb hby own_h201) hr))), hrun, hended, _, _, rfl, ?_, ⟨_, rfl⟩, hW, hsame.mono (own_l rfl) (own_l rfl)⟩
 show Q_rmC2 Z b kb cs k h0 n0 _ T86.heap _
 rw [e98]
 exact ⟨t71, kt72, ds73, rfl, N99, P84, F74, F75, F76, H080, trivial⟩
def Q_rmCf (Z : State) (t : Addr) (kt : ClassId) (N : Nat) (ds : List Value) (h0 : Heap) (n0 : Nat) (v : Option Value) (h : Heap) (L : List Loc) : Prop := v = some (.int (1 : Int32)) ∧ Fr n0 L ∧ h = h0
theorem own_h202 : decode jdk_52_method_15_code 0 = .ok (.iload_n 1, 1) := by decide +kernel
theorem own_h203 : decode jdk_52_method_15_code 1 = .ok (.aload_n 0, 1) := by decide +kernel
theorem own_h204 : decode jdk_52_method_15_code 2 = .ok (.arraylength, 1) := by decide +kernel
theorem own_h205 : decode jdk_52_method_15_code 3 = .ok (.isub, 1) := by decide +kernel
theorem own_h206 : decode jdk_52_method_15_code 4 = .ok (.bipush 31, 2) := by decide +kernel
theorem own_h207 : decode jdk_52_method_15_code 6 = .ok (.iushr, 1) := by decide +kernel
theorem own_h208 : decode jdk_52_method_15_code 7 = .ok (.i2b, 1) := by decide +kernel
theorem own_h209 : decode jdk_52_method_15_code 8 = .ok (.ireturn, 1) := by decide +kernel
theorem rmCf (l : Launch) (Z : State) (a0 : Array Value) (hw : ∀ d ∈ tables_1, d.before a0 Z = true) (ws : List Jvm.Cond) (t : Addr) (kt : ClassId) (N : Nat) (ds : List Value) (h0 : Heap) (n0 : Nat) (Z0 : n0 ≤ h0.size) (f0_ : Arv Z h0 t kt .byte (Int32.ofNat (2 * N)) ds (.int (0 : Int32))) (hN : N ≤ 11) (hN0 : 0 < N)  :
    own_Met l (⟨"java/lang/StringUTF16", "coderFromArrayLen", "([BI)B"⟩ : MethodName) jdk_52_method_15_code 2 (some .byte) ws (rO 0 0 0 0) #[(.ref t), (.int (Int32.ofNat N))] Z h0 (Q_rmCf Z t kt N ds h0 n0) := by
 refine MetFree.of_bodySF (plainFor_of_name own_h17) hisR ?_
 intro p e s m args below meth c s₁ Bd hml0 hP hK
 obtain ⟨rfl, hZ, hh⟩ := hP
 have hx := Bd.exec
 have hby := Bd.bytes
 have hml : c.maxLocals = 2 := hml0
 have hown : s.vm.findClass "java/lang/StringUTF16" = some m.cls := findClass_of_methodNamed Bd.named
 have hnm := (name_of_methodNamed Bd.named Bd.method).1
 have X0 : Stand p l e (rO 0 0 0 0) s m #[(.ref t), (.int (Int32.ofNat N))] below meth c s₁ [] 0 0 := Stand.of_body Bd
 have e0 : s₁.heap = h0 := by rw [← hh, Bd.state]; rfl
 have N0 := Fr.nil n0
 obtain ⟨B_, hB_⟩ : ∃ z, z = s₁.setTop (entryFrame m #[(.ref t), (.int (Int32.ofNat N))] 2) := ⟨_, rfl⟩
 have k0 : own_K p e below (s₁.setTop (mkF m 0 #[.val (.ref t), .val (.int (Int32.ofNat N))] [])) B_ := by rw [hB_]; exact fun t k => castTop (by clear k; first | (simp [entryFrame, mkF, argsToLocals, Value.category, maxLocals]; done) | rfl) k
 obtain ⟨cl21, Ar22, -, S23, Ng24, -, -⟩ := id f0_
 have k1 : own_J p e below s₁ m 8 #[.val (.ref t), .val (.int (Int32.ofNat N))] [(.int (((((Int32.ofNat N) - (Int32.ofNat (2 * N))).toUInt32 >>> ((31 : Int32) &&& 31).toUInt32).toInt32).toInt8.toInt32))] B_ := fun t_ hh => k0 t_ (by
  refine XS.iloadN X0.here hx rfl (hb hby own_h202) rfl ?_
  refine XS.aloadN X0.here hx rfl (hb hby own_h203) rfl rfl ?_
  refine X0.arraylength hx (by rw [e0]; exact Ar22.1) (State.isArrayOf_alike hZ.alike Ar22.2.1) (g := (mkF m 2 #[.val (.ref t), .val (.int (Int32.ofNat N))] [(.ref t), (.int (Int32.ofNat N))])) rfl rfl (hb hby own_h204) _ ?_
  rw [len_of S23 Ng24]
  refine XS.isub X0.here hx rfl (hb hby own_h205) rfl ?_
  refine XS.bipush X0.here hx rfl (hb hby own_h206) ?_
  refine XS.iushr X0.here hx rfl (hb hby own_h207) rfl ?_
  refine XS.i2b X0.here hx rfl (hb hby own_h208) rfl ?_
  exact hh)
 obtain ⟨fs, hr, hrun, hended, hW, hsame⟩ := X0.leave (v := some (.int (nar .byte (((((Int32.ofNat N) - (Int32.ofNat (2 * N))).toUInt32 >>> ((31 : Int32) &&& 31).toUInt32).toInt32).toInt8.toInt32)))) (fun h => by rw [Bd.returns] at h; cases h)
 refine ⟨_, _, (own_from hB_ (k1 _ (retN X0 hx (t := .byte) Bd.returns (by simp) (hb hby own_h209) hr))), hrun, hended, _, _, rfl, ?_, ⟨_, rfl⟩, hW, hsame.mono (own_l rfl) (own_l rfl)⟩
 show Q_rmCf Z t kt N ds h0 n0 _ s₁.heap _
 rw [e0]
 exact ⟨(by rw [own_cod1 hN0 hN]), N0, rfl⟩
def Q_rmI4 (Z : State) (a : Addr) (b : Addr) (kb : ClassId) (cs : List Int32) (k : Nat) (h0 : Heap) (n0 : Nat) (v : Option Value) (h : Heap) (L : List Loc) : Prop := ∃ t : Addr, ∃ kt : ClassId, ∃ ds : List Value, v = none ∧ Fr n0 L ∧ Keep h0 h [a] ∧ Exa Z h a "java/lang/String" ∧ Fld Z h a "java/lang/String" "value" "[B" (.ref t) ∧ Fld Z h a "java/lang/String" "coder" "B" (.int (1 : Int32)) ∧ Arv Z h t kt .byte (Int32.ofNat (2 * cs.length)) ds (.int 0) ∧ own_enc cs ds cs.length ∧ n0 ≤ t ∧ h0.size ≤ t ∧ True
theorem own_h210 : decode jdk_42_method_149_code 0 = .ok (.aload_n 0, 1) := by decide +kernel
theorem own_h211 : decode jdk_42_method_149_code 1 = .ok (.invokespecial 1, 3) := by decide +kernel
theorem own_h212 : decode jdk_42_method_149_code 4 = .ok (.iload_n 3, 1) := by decide +kernel
theorem own_h213 : decode jdk_42_method_149_code 5 = .ok (.ifCond .ne 22, 3) := by decide +kernel
theorem own_h214 : decode jdk_42_method_149_code 27 = .ok (.getstatic 38, 3) := by decide +kernel
theorem own_h215 : decode jdk_42_method_149_code 30 = .ok (.ifCond .eq 28, 3) := by decide +kernel
theorem own_h216 : decode jdk_42_method_149_code 33 = .ok (.aload_n 1, 1) := by decide +kernel
theorem own_h217 : decode jdk_42_method_149_code 34 = .ok (.iload_n 2, 1) := by decide +kernel
theorem own_h218 : decode jdk_42_method_149_code 35 = .ok (.iload_n 3, 1) := by decide +kernel
theorem own_h219 : decode jdk_42_method_149_code 36 = .ok (.invokestatic 177, 3) := by decide +kernel
theorem own_h220 : decode jdk_42_method_149_code 39 = .ok (.astore 5, 2) := by decide +kernel
theorem own_h221 : decode jdk_42_method_149_code 41 = .ok (.aload_n 0, 1) := by decide +kernel
theorem own_h222 : decode jdk_42_method_149_code 42 = .ok (.aload 5, 2) := by decide +kernel
theorem own_h223 : decode jdk_42_method_149_code 44 = .ok (.iload_n 3, 1) := by decide +kernel
theorem own_h224 : decode jdk_42_method_149_code 45 = .ok (.invokestatic 47, 3) := by decide +kernel
theorem own_h225 : parseMethodDescriptor "([BI)B" = some ⟨[.array .byte, .int], some .byte⟩ := by decide +kernel
theorem own_h226 : decode jdk_42_method_149_code 48 = .ok (.putfield 15, 3) := by decide +kernel
theorem own_h227 : decode jdk_42_method_149_code 51 = .ok (.aload_n 0, 1) := by decide +kernel
theorem own_h228 : decode jdk_42_method_149_code 52 = .ok (.aload 5, 2) := by decide +kernel
theorem own_h229 : decode jdk_42_method_149_code 54 = .ok (.putfield 9, 3) := by decide +kernel
theorem own_h230 : decode jdk_42_method_149_code 57 = .ok (.return_, 1) := by decide +kernel
theorem rmI4 (l : Launch) (Z : State) (a0 : Array Value) (hw : ∀ d ∈ tables_1, d.before a0 Z = true) (ws : List Jvm.Cond) (a : Addr) (b : Addr) (kb : ClassId) (cs : List Int32) (k : Nat) (h0 : Heap) (n0 : Nat) (Z0 : n0 ≤ h0.size) (f0_ : Exa Z h0 a "java/lang/String") (f1_ : Fld Z h0 a "java/lang/String" "value" "[B" .null) (f2_ : Fld Z h0 a "java/lang/String" "coder" "B" (.int (0 : Int32))) (f3_ : n0 ≤ a) (f4_ : Arv Z h0 b kb .char (Int32.ofNat cs.length) (cs.map Value.int) (.int 0)) (h11 : cs.length ≤ 11) (hch : own_chs cs) (hk : k < cs.length) (hkb : (255 : Int32) < cs.getD k 0) (hlo : ∀ j, j < k → ¬ (255 : Int32) < cs.getD j 0) (f10_ : Old Z n0 h0) (f11_ : b ≠ a) (sA : Sta Z Z.heap "java/lang/StringUTF16" "$assertionsDisabled" "Z" (.int (1 : Int32))) (sH : Sta Z Z.heap "java/lang/StringUTF16" "HI_BYTE_SHIFT" "I" (.int (0 : Int32))) (sL : Sta Z Z.heap "java/lang/StringUTF16" "LO_BYTE_SHIFT" "I" (.int (8 : Int32))) (ci : Int32) (sC : Sta Z Z.heap "java/lang/String" "COMPACT_STRINGS" "Z" (.int ci)) (hc : ¬ ci = 0) :
    own_Met l (⟨"java/lang/String", "<init>", "([CIILjava/lang/Void;)V"⟩ : MethodName) jdk_42_method_149_code 6 none ws (rO 5 2 33 93) #[(.ref a), (.ref b), (.int (0 : Int32)), (.int (Int32.ofNat cs.length)), .null] Z h0 (Q_rmI4 Z a b kb cs k h0 n0) := by
 refine MetFree.of_bodySF (plainFor_of_name own_h9) hisR ?_
 intro p e s m args below meth c s₁ Bd hml0 hP hK
 obtain ⟨rfl, hZ, hh⟩ := hP
 have hx := Bd.exec
 have hby := Bd.bytes
 have hml : c.maxLocals = 6 := hml0
 have hown : s.vm.findClass "java/lang/String" = some m.cls := findClass_of_methodNamed Bd.named
 have hnm := (name_of_methodNamed Bd.named Bd.method).1
 have X0 : Stand p l e (rO 5 2 33 93) s m #[(.ref a), (.ref b), (.int (0 : Int32)), (.int (Int32.ofNat cs.length)), .null] below meth c s₁ [] 0 0 := Stand.of_body Bd
 have e0 : s₁.heap = h0 := by rw [← hh, Bd.state]; rfl
 have N0 := Fr.nil n0
 obtain ⟨B_, hB_⟩ : ∃ z, z = s₁.setTop (entryFrame m #[(.ref a), (.ref b), (.int (0 : Int32)), (.int (Int32.ofNat cs.length)), .null] 6) := ⟨_, rfl⟩
 have k0 : own_K p e below (s₁.setTop (mkF m 0 #[.val (.ref a), .val (.ref b), .val (.int (0 : Int32)), .val (.int (Int32.ofNat cs.length)), .val .null, .unset] [])) B_ := by rw [hB_]; exact fun t k => castTop (by clear k; first | (simp [entryFrame, mkF, argsToLocals, Value.category, maxLocals]; done) | rfl) k
 have K0 : Keep h0 h0 [a] := Keep.refl _ _
 have k1 : own_J p e below s₁ m 1 #[.val (.ref a), .val (.ref b), .val (.int (0 : Int32)), .val (.int (Int32.ofNat cs.length)), .val .null, .unset] [(.ref a)] B_ := fun t_ hh => k0 t_ (by
  refine XS.aloadN X0.here hx rfl (hb hby own_h210) rfl rfl ?_
  exact hh)
 obtain ⟨T21, X22, e23, st24⟩ := initO X0 hx hZ hown (wT hw 33 rfl) (wT hw 34 rfl) (wT hw 35 rfl) e0 (g := (mkF m 1 #[.val (.ref a), .val (.ref b), .val (.int (0 : Int32)), .val (.int (Int32.ofNat cs.length)), .val .null, .unset] [(.ref a)])) rfl (by rw [hml]; rfl) rfl (hb hby own_h211) (by decide) (W := 0) (by show 2 * 0 + _ ≤ _; exact Nat.le_of_eq rfl) (by decide)
 have k2 : own_J p e below T21 m 4 #[.val (.ref a), .val (.ref b), .val (.int (0 : Int32)), .val (.int (Int32.ofNat cs.length)), .val .null, .unset] [] B_ := fun t_ hh => k1 t_ (st24 t_ hh)
 clear k1 st24
 have k3 : own_J p e below T21 m 27 #[.val (.ref a), .val (.ref b), .val (.int (0 : Int32)), .val (.int (Int32.ofNat cs.length)), .val .null, .unset] [] B_ := fun t_ hh => k2 t_ (by
  refine XS.iloadN X22.here hx rfl (hb hby own_h212) rfl ?_
  refine XS.ifYes X22.here hx rfl (pc0 := 5) (pc' := 27) rfl (hb hby own_h213) rfl (own_ifT_ne (own_pos32 (by omega) (by omega))) (by decide) (by decide) ?_
  exact hh)
 clear k2
 obtain ⟨T25, X26, e27, st28⟩ := getS X22 hx hZ hown (host := "") (wT hw 36 rfl) Via.refl e23 (Sta.ext f10_.2 sC) (g := (mkF m 27 #[.val (.ref a), .val (.ref b), .val (.int (0 : Int32)), .val (.int (Int32.ofNat cs.length)), .val .null, .unset] [])) rfl (hb hby own_h214)
 have k4 : own_J p e below T25 m 30 #[.val (.ref a), .val (.ref b), .val (.int (0 : Int32)), .val (.int (Int32.ofNat cs.length)), .val .null, .unset] [(.int ci)] B_ := fun t_ hh => k3 t_ (st28 t_ hh)
 clear k3 st28 X22 e23
 have k5 : own_J p e below T25 m 36 #[.val (.ref a), .val (.ref b), .val (.int (0 : Int32)), .val (.int (Int32.ofNat cs.length)), .val .null, .unset] [(.int (Int32.ofNat cs.length)), (.int (0 : Int32)), (.ref b)] B_ := fun t_ hh => k4 t_ (by
  refine XS.ifNo X26.here hx rfl (hb hby own_h215) rfl (own_ifF_eq hc) ?_
  refine XS.aloadN X26.here hx rfl (hb hby own_h216) rfl rfl ?_
  refine XS.iloadN X26.here hx rfl (hb hby own_h217) rfl ?_
  refine XS.iloadN X26.here hx rfl (hb hby own_h218) rfl ?_
  exact hh)
 clear k4
 obtain ⟨_, _, ⟨T29, L30, k_31, n_32⟩, -, X33, ⟨Lc34, hQ35, l_36, y_37, z_38⟩, st39⟩ := Jvm.LawKit.callS X26 hx (y := (⟨"java/lang/StringUTF16", "compress", "([CII)[B"⟩ : MethodName)) hown (mvT hZ (wT hw 37 rfl)) (mvT hZ (wT hw 38 rfl)) (mvT hZ (wT hw 39 rfl)) (mvT hZ (wT hw 40 rfl)) (by decide) (backOf (W := 0) (rmC2 l Z a0 hw [] b kb cs k h0 n0 Z0 f4_ h11 hch hk hkb hlo f10_ sA sH sL) hZ (wT hw 40 rfl) (wT hw 39 rfl) (by decide) (by decide)) (g := (mkF m 36 #[.val (.ref a), .val (.ref b), .val (.int (0 : Int32)), .val (.int (Int32.ofNat cs.length)), .val .null, .unset] [(.int (Int32.ofNat cs.length)), (.int (0 : Int32)), (.ref b)])) rfl (by rw [hml]; rfl) (argsL := [(.ref b), (.int (0 : Int32)), (.int (Int32.ofNat cs.length))]) (rest := []) (lenOf own_h193 rfl) rfl (by show 2 * 0 + _ ≤ _; exact Nat.le_of_eq rfl) (hb hby own_h219) (fun _ _ => ⟨rfl, e27, own_l rfl, own_l rfl⟩)
 dsimp only [Pt.U, Pt.locs, Pt.cells, Pt.slots] at X33 l_36 y_37 z_38 st39 hQ35
 replace l_36 := l_36.symm
 subst l_36 y_37 z_38
 obtain ⟨t41, kt42, ds43, rfl, N40, K48, F44, F45, F46, F47, -⟩ := hQ35
 have N49 := Fr.app N0 N40
 have H050 : h0.size ≤ t41 := Nat.le_trans K0.1 F47
 have F51 := f0_.keep K48
 have F52 := f1_.keep K48 nin0
 have F53 := f2_.keep K48 nin0
 have F54 := f4_.keep K48 nin0
 have Z55 : n0 ≤ T29.heap.size := Nat.le_trans Z0 K48.1
 have O56 := f10_.keep K48 all0
 have P57 : Keep h0 T29.heap [a] := K0.trans K48 (fun _ q => nomatch q)
 have e58 : T29.heap = T29.heap := rfl
 have k6 : own_J p e below T29 m 39 #[.val (.ref a), .val (.ref b), .val (.int (0 : Int32)), .val (.int (Int32.ofNat cs.length)), .val .null, .unset] [(.ref t41)] B_ := fun t_ hh => k5 t_ (st39 t_ hh)
 clear k5 st39 X26 e27
 have k7 : own_J p e below T29 m 45 #[.val (.ref a), .val (.ref b), .val (.int (0 : Int32)), .val (.int (Int32.ofNat cs.length)), .val .null, .val (.ref t41)] [(.int (Int32.ofNat cs.length)), (.ref t41), (.ref a)] B_ := fun t_ hh => k6 t_ (by
  refine XS.astore X33.here hx rfl (hb hby own_h220) rfl rfl (l' := #[.val (.ref a), .val (.ref b), .val (.int (0 : Int32)), .val (.int (Int32.ofNat cs.length)), .val .null, .val (.ref t41)]) rfl ?_
  refine XS.aloadN X33.here hx rfl (hb hby own_h221) rfl rfl ?_
  refine XS.aload X33.here hx rfl (hb hby own_h222) rfl rfl ?_
  refine XS.iloadN X33.here hx rfl (hb hby own_h223) rfl ?_
  exact hh)
 clear k6
 obtain ⟨_, _, ⟨T59, L60, k_61, n_62⟩, -, X63, ⟨Lc64, hQ65, l_66, y_67, z_68⟩, st69⟩ := Jvm.LawKit.callS X33 hx (y := (⟨"java/lang/StringUTF16", "coderFromArrayLen", "([BI)B"⟩ : MethodName)) hown (mvT hZ (wT hw 45 rfl)) (mvT hZ (wT hw 46 rfl)) (mvT hZ (wT hw 39 rfl)) (mvT hZ (wT hw 47 rfl)) (by decide) (backOf (W := 1) (rmCf l Z a0 hw [] t41 kt42 cs.length ds43 T29.heap n0 Z55 F44 h11 (by omega) ) hZ (wT hw 47 rfl) (wT hw 39 rfl) (by decide) (by decide)) (g := (mkF m 45 #[.val (.ref a), .val (.ref b), .val (.int (0 : Int32)), .val (.int (Int32.ofNat cs.length)), .val .null, .val (.ref t41)] [(.int (Int32.ofNat cs.length)), (.ref t41), (.ref a)])) rfl (by rw [hml]; rfl) (argsL := [(.ref t41), (.int (Int32.ofNat cs.length))]) (rest := [(.ref a)]) (lenOf own_h225 rfl) rfl (by show 2 * 0 + _ ≤ _; exact Nat.le_of_eq rfl) (hb hby own_h224) (fun _ _ => ⟨rfl, e58, own_l rfl, own_l rfl⟩)
 dsimp only [Pt.U, Pt.locs, Pt.cells, Pt.slots] at X63 l_66 y_67 z_68 st69 hQ65
 replace l_66 := l_66.symm
 subst l_66 y_67 z_68
 obtain ⟨rfl, N70, e71⟩ := hQ65
 have N72 := Fr.app N49 N70
 have k8 : own_J p e below T59 m 48 #[.val (.ref a), .val (.ref b), .val (.int (0 : Int32)), .val (.int (Int32.ofNat cs.length)), .val .null, .val (.ref t41)] [(.int (1 : Int32)), (.ref a)] B_ := fun t_ hh => k7 t_ (st69 t_ hh)
 clear k7 st69 X33 e58
 obtain ⟨T73, h74, X75, e76, W77, st78⟩ := putF X63 hx hZ hown (host := "") (Or.inl (wT hw 48 rfl)) Via.refl e71 F53 F51 (Or.inr ⟨(wT hw 49 rfl), rfl, hnm⟩) (wT hw 24 rfl) (ty := .byte) (by decide) rfl rfl (g := (mkF m 48 #[.val (.ref a), .val (.ref b), .val (.int (0 : Int32)), .val (.int (Int32.ofNat cs.length)), .val .null, .val (.ref t41)] [(.int (1 : Int32)), (.ref a)])) rfl rfl (hb hby own_h226)
 have N79 := Fr.snoc X75 N72 f3_
 have F80 := Exa.wr W77 F51
 have F81 := Fld.other W77 F52 (Or.inr (slot_ne (Or.inr (wT hw 51 rfl)) (Or.inr (wT hw 49 rfl)) (by decide) (t := (.array .byte)) (t' := .byte) (by decide) (by decide)))
 have F82 : Fld Z h74 a "java/lang/String" "coder" "B" (.int (1 : Int32)) := Fld.same W77 F53
 have F83 := F54.other W77 f11_
 have ne89 : a ≠ t41 := Nat.ne_of_lt (Nat.lt_of_lt_of_le f0_.lt F47)
 have F88 := F44.other W77 (Ne.symm ne89)
 have Z90 : n0 ≤ h74.size := W77.size ▸ Z55
 have O91 := O56.wr W77 f3_
 have P92 : Keep h0 h74 [a] := P57.wr W77 (Or.inl (List.mem_of_getElem? (i := 0) rfl))
 have k9 : own_J p e below T73 m 51 #[.val (.ref a), .val (.ref b), .val (.int (0 : Int32)), .val (.int (Int32.ofNat cs.length)), .val .null, .val (.ref t41)] [] B_ := fun t_ hh => k8 t_ (st78 t_ hh)
 clear k8 st78 X63 e71
 have k10 : own_J p e below T73 m 54 #[.val (.ref a), .val (.ref b), .val (.int (0 : Int32)), .val (.int (Int32.ofNat cs.length)), .val .null, .val (.ref t41)] [(.ref t41), (.ref a)] B_ := fun t_ hh => k9 t_ (by
  refine XS.aloadN X75.here hx rfl (hb hby own_h227) rfl rfl ?_
  refine XS.aload X75.here hx rfl (hb hby own_h228) rfl rfl ?_
  exact hh)
 clear k9
 obtain ⟨T93, h94, X95, e96, W97, st98⟩ := putF X75 hx hZ hown (host := "") (Or.inl (wT hw 50 rfl)) Via.refl e76 F81 F80 (Or.inr ⟨(wT hw 51 rfl), rfl, hnm⟩) (wT hw 24 rfl) (ty := .array .byte) (by decide) rfl rfl (g := (mkF m 54 #[.val (.ref a), .val (.ref b), .val (.int (0 : Int32)), .val (.int (Int32.ofNat cs.length)), .val .null, .val (.ref t41)] [(.ref t41), (.ref a)])) rfl rfl (hb hby own_h229)
 have N99 := Fr.snoc X95 N79 f3_
 have F100 := Exa.wr W97 F80
 have F101 : Fld Z h94 a "java/lang/String" "value" "[B" (.ref t41) := Fld.same W97 F81
 have F102 := Fld.other W97 F82 (Or.inr (slot_ne (Or.inr (wT hw 49 rfl)) (Or.inr (wT hw 51 rfl)) (by decide) (t := .byte) (t' := (.array .byte)) (by decide) (by decide)))
 have F103 := F83.other W97 f11_
 have F108 := F88.other W97 (Ne.symm ne89)
 have Z109 : n0 ≤ h94.size := W97.size ▸ Z90
 have O110 := O91.wr W97 f3_
 have P111 : Keep h0 h94 [a] := P92.wr W97 (Or.inl (List.mem_of_getElem? (i := 0) rfl))
 have k11 : own_J p e below T93 m 57 #[.val (.ref a), .val (.ref b), .val (.int (0 : Int32)), .val (.int (Int32.ofNat cs.length)), .val .null, .val (.ref t41)] [] B_ := fun t_ hh => k10 t_ (st98 t_ hh)
 clear k10 st98 X75 e76
 obtain ⟨fs, hr, hrun, hended, hW, hsame⟩ := X95.leave (v := none) (fun _ => rfl)
 refine ⟨_, _, (own_from hB_ (k11 _ (X95.returnOut hx Bd.returns (hb hby own_h230) hr))), hrun, hended, _, _, rfl, ?_, ⟨_, rfl⟩, hW, hsame.mono (own_l rfl) (own_l rfl)⟩
 show Q_rmI4 Z a b kb cs k h0 n0 _ T93.heap _
 rw [e96]
 exact ⟨t41, kt42, ds43, rfl, N99, P111, F100, F101, F102, F108, F45, F46, H050, trivial⟩
def Q_rmI2 (Z : State) (a : Addr) (b : Addr) (kb : ClassId) (cs : List Int32) (k : Nat) (h0 : Heap) (n0 : Nat) (v : Option Value) (h : Heap) (L : List Loc) : Prop := ∃ t : Addr, ∃ kt : ClassId, ∃ ds : List Value, v = none ∧ Fr n0 L ∧ Keep h0 h [a] ∧ Exa Z h a "java/lang/String" ∧ Fld Z h a "java/lang/String" "value" "[B" (.ref t) ∧ Fld Z h a "java/lang/String" "coder" "B" (.int (1 : Int32)) ∧ Arv Z h t kt .byte (Int32.ofNat (2 * cs.length)) ds (.int 0) ∧ own_enc cs ds cs.length ∧ n0 ≤ t ∧ h0.size ≤ t ∧ True
theorem own_h231 : decode jdk_42_method_3_code 0 = .ok (.aload_n 0, 1) := by decide +kernel
theorem own_h232 : decode jdk_42_method_3_code 1 = .ok (.aload_n 1, 1) := by decide +kernel
theorem own_h233 : decode jdk_42_method_3_code 2 = .ok (.iconst 0, 1) := by decide +kernel
theorem own_h234 : decode jdk_42_method_3_code 3 = .ok (.aload_n 1, 1) := by decide +kernel
theorem own_h235 : decode jdk_42_method_3_code 4 = .ok (.arraylength, 1) := by decide +kernel
theorem own_h236 : decode jdk_42_method_3_code 5 = .ok (.aconst_null, 1) := by decide +kernel
theorem own_h237 : decode jdk_42_method_3_code 6 = .ok (.invokespecial 27, 3) := by decide +kernel
theorem own_h238 : parseMethodDescriptor "([CIILjava/lang/Void;)V" = some ⟨[.array .char, .int, .int, .object "java/lang/Void"], none⟩ := by decide +kernel
theorem own_h239 : decode jdk_42_method_3_code 9 = .ok (.return_, 1) := by decide +kernel
theorem rmI2 (l : Launch) (Z : State) (a0 : Array Value) (hw : ∀ d ∈ tables_1, d.before a0 Z = true) (ws : List Jvm.Cond) (a : Addr) (b : Addr) (kb : ClassId) (cs : List Int32) (k : Nat) (h0 : Heap) (n0 : Nat) (Z0 : n0 ≤ h0.size) (f0_ : Exa Z h0 a "java/lang/String") (f1_ : Fld Z h0 a "java/lang/String" "value" "[B" .null) (f2_ : Fld Z h0 a "java/lang/String" "coder" "B" (.int (0 : Int32))) (f3_ : n0 ≤ a) (f4_ : Arv Z h0 b kb .char (Int32.ofNat cs.length) (cs.map Value.int) (.int 0)) (h11 : cs.length ≤ 11) (hch : own_chs cs) (hk : k < cs.length) (hkb : (255 : Int32) < cs.getD k 0) (hlo : ∀ j, j < k → ¬ (255 : Int32) < cs.getD j 0) (f10_ : Old Z n0 h0) (f11_ : b ≠ a) (sA : Sta Z Z.heap "java/lang/StringUTF16" "$assertionsDisabled" "Z" (.int (1 : Int32))) (sH : Sta Z Z.heap "java/lang/StringUTF16" "HI_BYTE_SHIFT" "I" (.int (0 : Int32))) (sL : Sta Z Z.heap "java/lang/StringUTF16" "LO_BYTE_SHIFT" "I" (.int (8 : Int32))) (ci : Int32) (sC : Sta Z Z.heap "java/lang/String" "COMPACT_STRINGS" "Z" (.int ci)) (hc : ¬ ci = 0) :
    own_Met l (⟨"java/lang/String", "<init>", "([C)V"⟩ : MethodName) jdk_42_method_3_code 2 none ws (rO 6 2 33 110) #[(.ref a), (.ref b)] Z h0 (Q_rmI2 Z a b kb cs k h0 n0) := by
 refine MetFree.of_bodySF (plainFor_of_name own_h9) hisR ?_
 intro p e s m args below meth c s₁ Bd hml0 hP hK
 obtain ⟨rfl, hZ, hh⟩ := hP
 have hx := Bd.exec
 have hby := Bd.bytes
 have hml : c.maxLocals = 2 := hml0
 have hown : s.vm.findClass "java/lang/String" = some m.cls := findClass_of_methodNamed Bd.named
 have hnm := (name_of_methodNamed Bd.named Bd.method).1
 have X0 : Stand p l e (rO 6 2 33 110) s m #[(.ref a), (.ref b)] below meth c s₁ [] 0 0 := Stand.of_body Bd
 have e0 : s₁.heap = h0 := by rw [← hh, Bd.state]; rfl
 have N0 := Fr.nil n0
 obtain ⟨B_, hB_⟩ : ∃ z, z = s₁.setTop (entryFrame m #[(.ref a), (.ref b)] 2) := ⟨_, rfl⟩
 have k0 : own_K p e below (s₁.setTop (mkF m 0 #[.val (.ref a), .val (.ref b)] [])) B_ := by rw [hB_]; exact fun t k => castTop (by clear k; first | (simp [entryFrame, mkF, argsToLocals, Value.category, maxLocals]; done) | rfl) k
 have K0 : Keep h0 h0 [a] := Keep.refl _ _
 obtain ⟨cl21, Ar22, -, S23, Ng24, -, -⟩ := id f4_
 have k1 : own_J p e below s₁ m 6 #[.val (.ref a), .val (.ref b)] [.null, (.int (Int32.ofNat cs.length)), (.int (0 : Int32)), (.ref b), (.ref a)] B_ := fun t_ hh => k0 t_ (by
  refine XS.aloadN X0.here hx rfl (hb hby own_h231) rfl rfl ?_
  refine XS.aloadN X0.here hx rfl (hb hby own_h232) rfl rfl ?_
  refine XS.iconst X0.here hx rfl (hb hby own_h233) ?_
  refine XS.aloadN X0.here hx rfl (hb hby own_h234) rfl rfl ?_
  refine X0.arraylength hx (by rw [e0]; exact Ar22.1) (State.isArrayOf_alike hZ.alike Ar22.2.1) (g := (mkF m 4 #[.val (.ref a), .val (.ref b)] [(.ref b), (.int (0 : Int32)), (.ref b), (.ref a)])) rfl rfl (hb hby own_h235) _ ?_
  rw [len_of S23 Ng24]
  refine XS.aconstNull X0.here hx rfl (hb hby own_h236) ?_
  exact hh)
 obtain ⟨_, _, ⟨T25, L26, k_27, n_28⟩, -, X29, ⟨Lc30, hQ31, l_32, y_33, z_34⟩, st35⟩ := X0.specialBack hx (y := (⟨"java/lang/String", "<init>", "([CIILjava/lang/Void;)V"⟩ : MethodName)) rfl hown (mvT hZ (wT hw 29 rfl)) (mvT hZ (wT hw 30 rfl)) (mvT hZ (wT hw 32 rfl)) (by decide) (backOf (W := 0) (rmI4 l Z a0 hw [] a b kb cs k h0 n0 Z0 f0_ f1_ f2_ f3_ f4_ h11 hch hk hkb hlo f10_ f11_ sA sH sL ci sC hc) hZ (wT hw 32 rfl) (wT hw 25 rfl) (by decide) (by decide)) (g := (mkF m 6 #[.val (.ref a), .val (.ref b)] [.null, (.int (Int32.ofNat cs.length)), (.int (0 : Int32)), (.ref b), (.ref a)])) rfl (by rw [hml]; rfl) (Steps.refl _) (a := a) (argsL := [(.ref b), (.int (0 : Int32)), (.int (Int32.ofNat cs.length)), .null]) (rest := []) (lenOf own_h238 rfl) rfl (by show 2 * 0 + _ ≤ _; exact Nat.le_of_eq rfl) (hb hby own_h237) (fun _ _ => ⟨rfl, e0, own_l rfl, own_l rfl⟩)
 dsimp only [Pt.U, Pt.locs, Pt.cells, Pt.slots] at X29 l_32 y_33 z_34 st35 hQ31
 replace l_32 := l_32.symm
 subst l_32 y_33 z_34
 obtain ⟨t37, kt38, ds39, rfl, N36, K47, F40, F41, F42, F43, F44, F45, F46, -⟩ := hQ31
 have N48 := Fr.app N0 N36
 have H049 : h0.size ≤ t37 := Nat.le_trans K0.1 F46
 have F50 := f0_.keep K47
 have F51 := f4_.keep K47 (ninS f11_ nin0)
 have Z52 : n0 ≤ T25.heap.size := Nat.le_trans Z0 K47.1
 have O53 := f10_.keep K47 (allS f3_ all0)
 have P54 : Keep h0 T25.heap [a] := K0.trans K47 (allS (P := fun x => x ∈ [a] ∨ h0.size ≤ x) (Or.inl (List.mem_of_getElem? (i := 0) rfl)) all0)
 have e55 : T25.heap = T25.heap := rfl
 have k2 : own_J p e below T25 m 9 #[.val (.ref a), .val (.ref b)] [] B_ := fun t_ hh => k1 t_ (st35.trans hh)
 clear k1 st35
 obtain ⟨fs, hr, hrun, hended, hW, hsame⟩ := X29.leave (v := none) (fun _ => rfl)
 refine ⟨_, _, (own_from hB_ (k2 _ (X29.returnOut hx Bd.returns (hb hby own_h239) hr))), hrun, hended, _, _, rfl, ?_, ⟨_, rfl⟩, hW, hsame.mono (own_l rfl) (own_l rfl)⟩
 show Q_rmI2 Z a b kb cs k h0 n0 _ T25.heap _
 rw [e55]
 exact ⟨t37, kt38, ds39, rfl, N48, P54, F40, F41, F42, F43, F44, F45, H049, trivial⟩
def Q_rmI0 (Z : State) (a : Addr) (b : Addr) (h0 : Heap) (n0 : Nat) (v : Option Value) (h : Heap) (L : List Loc) : Prop := ∃ t : Addr, ∃ kt : ClassId, v = none ∧ Fr n0 L ∧ Keep h0 h [a] ∧ Exa Z h a "java/lang/String" ∧ Fld Z h a "java/lang/String" "value" "[B" (.ref t) ∧ Fld Z h a "java/lang/String" "coder" "B" (.int (0 : Int32)) ∧ Arv Z h t kt .byte (0 : Int32) [] (.int 0) ∧ True
theorem own_h240 : decode jdk_42_method_149_code 8 = .ok (.aload_n 0, 1) := by decide +kernel
theorem own_h241 : decode jdk_42_method_149_code 9 = .ok (.ldc 7, 2) := by decide +kernel
theorem own_h242 : decode jdk_42_method_149_code 11 = .ok (.getfield 9, 3) := by decide +kernel
theorem own_h243 : decode jdk_42_method_149_code 14 = .ok (.putfield 9, 3) := by decide +kernel
theorem own_h244 : decode jdk_42_method_149_code 17 = .ok (.aload_n 0, 1) := by decide +kernel
theorem own_h245 : decode jdk_42_method_149_code 18 = .ok (.ldc 7, 2) := by decide +kernel
theorem own_h246 : decode jdk_42_method_149_code 20 = .ok (.getfield 15, 3) := by decide +kernel
theorem own_h247 : decode jdk_42_method_149_code 23 = .ok (.putfield 15, 3) := by decide +kernel
theorem own_h248 : decode jdk_42_method_149_code 26 = .ok (.return_, 1) := by decide +kernel
theorem rmI0 (l : Launch) (Z : State) (a0 : Array Value) (hw : ∀ d ∈ tables_1, d.before a0 Z = true) (ws : List Jvm.Cond) (a : Addr) (b : Addr) (h0 : Heap) (n0 : Nat) (Z0 : n0 ≤ h0.size) (f0_ : Exa Z h0 a "java/lang/String") (f1_ : Fld Z h0 a "java/lang/String" "value" "[B" .null) (f2_ : Fld Z h0 a "java/lang/String" "coder" "B" (.int (0 : Int32))) (f3_ : n0 ≤ a)  :
    MetFree l (⟨"java/lang/String", "<init>", "([CIILjava/lang/Void;)V"⟩ : MethodName) (head1 (Jvm.Cond.code (⟨"java/lang/String", "<init>", "([CIILjava/lang/Void;)V"⟩ : MethodName) jdk_42_method_149_code 6 none :: ws) (rO 1 4 8 12)) (fun ar_ U => ar_ = #[(.ref a), (.ref b), (.int (0 : Int32)), (.int (0 : Int32)), .null] ∧ Z.Warmed39 U.vm ∧ U.heap = h0 ∧ CHv Z own_EL U.vm h0) (fun _ _ _ _ _ => True) (fun _ U o U' => ∃ v L, o = .returned v ∧ Q_rmI0 Z a b h0 n0 v U'.heap L ∧ CHr Z own_EL U.vm U.heap U'.vm U'.heap ∧ ReturnedEndW U o U' L (rO 1 4 8 12).cells (rO 1 4 8 12).slots) := by
 refine MetFree.of_bodySF (plainFor_of_name own_h9) hisR ?_
 intro p e s m args below meth c s₁ Bd hml0 hP hK
 obtain ⟨rfl, hZ, hh, hCH⟩ := hP
 have hx := Bd.exec
 have hby := Bd.bytes
 have hml : c.maxLocals = 6 := hml0
 have hown : s.vm.findClass "java/lang/String" = some m.cls := findClass_of_methodNamed Bd.named
 have hnm := (name_of_methodNamed Bd.named Bd.method).1
 have X0 : Stand p l e (rO 1 4 8 12) (s.setVm s.vm) m #[(.ref a), (.ref b), (.int (0 : Int32)), (.int (0 : Int32)), .null] below meth c s₁ [] 0 0 := Stand.of_body Bd
 have hS0 : s.Since s.vm 0 := (State.WarmedH.refl s).since 0
 have hk0 : 0 ≤ h0.size := Nat.zero_le _
 have hZ : Z.Warmed39 (s.setVm s.vm).vm := hZ
 have hown : (s.setVm s.vm).vm.findClass "java/lang/String" = some m.cls := hown
 have Cr0 : CHr Z own_EL s.vm h0 s.vm h0 := CHr.refl hCH
 have e0 : s₁.heap = h0 := by rw [← hh, Bd.state]; rfl
 have N0 := Fr.nil n0
 obtain ⟨B_, hB_⟩ : ∃ z, z = s₁.setTop (entryFrame m #[(.ref a), (.ref b), (.int (0 : Int32)), (.int (0 : Int32)), .null] 6) := ⟨_, rfl⟩
 have k0 : own_K p e below (s₁.setTop (mkF m 0 #[.val (.ref a), .val (.ref b), .val (.int (0 : Int32)), .val (.int (0 : Int32)), .val .null, .unset] [])) B_ := by rw [hB_]; exact fun t k => castTop (by clear k; first | (simp [entryFrame, mkF, argsToLocals, Value.category, maxLocals]; done) | rfl) k
 have K0 : Keep h0 h0 [a] := Keep.refl _ _
 have Sf0 := own_safe_null (EL := own_EL) hZ.alike f0_ f1_
 have k1 : own_J p e below s₁ m 1 #[.val (.ref a), .val (.ref b), .val (.int (0 : Int32)), .val (.int (0 : Int32)), .val .null, .unset] [(.ref a)] B_ := fun t_ hh => k0 t_ (by
  refine XS.aloadN X0.here hx rfl (hb hby own_h210) rfl rfl ?_
  exact hh)
 obtain ⟨T21, X22, e23, st24⟩ := initO X0 hx hZ hown (wT hw 33 rfl) (wT hw 34 rfl) (wT hw 35 rfl) e0 (g := (mkF m 1 #[.val (.ref a), .val (.ref b), .val (.int (0 : Int32)), .val (.int (0 : Int32)), .val .null, .unset] [(.ref a)])) rfl (by rw [hml]; rfl) rfl (hb hby own_h211) (by decide) (W := 0) (by show 2 * 0 + _ ≤ _; exact Nat.le_of_eq rfl) (by decide)
 have k2 : own_J p e below T21 m 4 #[.val (.ref a), .val (.ref b), .val (.int (0 : Int32)), .val (.int (0 : Int32)), .val .null, .unset] [] B_ := fun t_ hh => k1 t_ (st24 t_ hh)
 clear k1 st24
 have k3 : own_J p e below T21 m 9 #[.val (.ref a), .val (.ref b), .val (.int (0 : Int32)), .val (.int (0 : Int32)), .val .null, .unset] [(.ref a)] B_ := fun t_ hh => k2 t_ (by
  refine XS.iloadN X22.here hx rfl (hb hby own_h212) rfl ?_
  refine XS.ifNo X22.here hx rfl (hb hby own_h213) rfl (by decide) ?_
  refine XS.aloadN X22.here hx rfl (hb hby own_h240) rfl rfl ?_
  exact hh)
 clear k2
 obtain ⟨a25, T26, h27, k_28, b29, kb30, X31, e32, E33, hS34, hk35, hZ36, hown37, E38, F39, F40, F41, l42, l43, C44, Lt45, ne46, st47⟩ := ldcCH X22 hx hZ hown (wT hw 121 rfl) (own_strAtoms hw) e23 hS0 hk0 (own_EW hw) (List.mem_of_getElem? (i := 0) rfl) Cr0.1 (vs := []) (z := (0 : Int32)) ⟨by decide, rfl⟩ (by decide) rfl (g := (mkF m 9 #[.val (.ref a), .val (.ref b), .val (.int (0 : Int32)), .val (.int (0 : Int32)), .val .null, .unset] [(.ref a)])) rfl (hb hby own_h241) (n := 0) (by decide) (by decide) (by decide) (by decide)
 have Sf48 := C44.safe f0_.lt Sf0
 have ne49 := (ne46 _ Sf48).1
 have ne50 := (ne46 _ Sf48).2
 have F51 := Exa.ext (h' := h27) E33 f0_
 have F52 := Fld.ext (h' := h27) E33 f1_
 have F53 := Fld.ext (h' := h27) E33 f2_
 have Z54 : n0 ≤ h27.size := Nat.le_trans Z0 E33.1
 have P55 : Keep h0 h27 [a] := K0.ext E33
 have Cr56 := Cr0.trans C44
 have k4 : own_J p e below T26 m 11 #[.val (.ref a), .val (.ref b), .val (.int (0 : Int32)), .val (.int (0 : Int32)), .val .null, .unset] [(.ref a25), (.ref a)] B_ := fun t_ hh => k3 t_ (st47 t_ hh)
 clear k3 st47 X22 e23
 obtain ⟨T57, X58, e59, st60⟩ := getF X31 hx hZ36 hown37 (host := "") (Or.inl (wT hw 50 rfl)) Via.refl e32 F40 (g := (mkF m 11 #[.val (.ref a), .val (.ref b), .val (.int (0 : Int32)), .val (.int (0 : Int32)), .val .null, .unset] [(.ref a25), (.ref a)])) rfl rfl (hb hby own_h242)
 have k5 : own_J p e below T57 m 14 #[.val (.ref a), .val (.ref b), .val (.int (0 : Int32)), .val (.int (0 : Int32)), .val .null, .unset] [(.ref b29), (.ref a)] B_ := fun t_ hh => k4 t_ (st60 t_ hh)
 clear k4 st60 X31 e32
 obtain ⟨T61, h62, X63, e64, W65, st66⟩ := putF X58 hx hZ36 hown37 (host := "") (Or.inl (wT hw 50 rfl)) Via.refl e59 F52 F51 (Or.inr ⟨(wT hw 51 rfl), rfl, hnm⟩) (wT hw 24 rfl) (ty := .array .byte) (by decide) rfl rfl (g := (mkF m 14 #[.val (.ref a), .val (.ref b), .val (.int (0 : Int32)), .val (.int (0 : Int32)), .val .null, .unset] [(.ref b29), (.ref a)])) rfl rfl (hb hby own_h243)
 have N67 := Fr.snoc X63 N0 f3_
 have hk68 := Nat.le_trans hk35 (show h27.size ≤ h62.size from Nat.le_of_eq W65.size.symm)
 have F69 := Exa.wr W65 F51
 have F70 : Fld Z h62 a "java/lang/String" "value" "[B" (.ref b29) := Fld.same W65 F52
 have F71 := Fld.other W65 F53 (Or.inr (slot_ne (Or.inr (wT hw 49 rfl)) (Or.inr (wT hw 51 rfl)) (by decide) (t := .byte) (t' := (.array .byte)) (by decide) (by decide)))
 have F72 := F41.other W65 (Ne.symm ne50)
 have F73 := Exa.wr W65 E38
 have F74 := Fld.other W65 F40 (Or.inl (Ne.symm ne49))
 have F75 := Fld.other W65 F39 (Or.inl (Ne.symm ne49))
 have Z76 : n0 ≤ h62.size := W65.size ▸ Z54
 have P77 : Keep h0 h62 [a] := P55.wr W65 (Or.inl (List.mem_of_getElem? (i := 0) rfl))
 have Sf78 := Safe.wr W65 Sf48 Cr56.1 Sf48
 have Cr79 := Cr56.trans (CHr.wr W65 Sf48 Cr56.1)
 have k6 : own_J p e below T61 m 17 #[.val (.ref a), .val (.ref b), .val (.int (0 : Int32)), .val (.int (0 : Int32)), .val .null, .unset] [] B_ := fun t_ hh => k5 t_ (st66 t_ hh)
 clear k5 st66 X58 e59
 have k7 : own_J p e below T61 m 18 #[.val (.ref a), .val (.ref b), .val (.int (0 : Int32)), .val (.int (0 : Int32)), .val .null, .unset] [(.ref a)] B_ := fun t_ hh => k6 t_ (by
  refine XS.aloadN X63.here hx rfl (hb hby own_h244) rfl rfl ?_
  exact hh)
 clear k6
 obtain ⟨a80, T81, h82, k_83, b84, kb85, X86, e87, E88, hS89, hk90, hZ91, hown92, E93, F94, F95, F96, l97, l98, C99, Lt100, ne101, st102⟩ := ldcCH X63 hx hZ36 hown37 (wT hw 121 rfl) (own_strAtoms hw) e64 hS34 hk68 (own_EW hw) (List.mem_of_getElem? (i := 0) rfl) Cr79.1 (vs := []) (z := (0 : Int32)) ⟨by decide, rfl⟩ (by decide) rfl (g := (mkF m 18 #[.val (.ref a), .val (.ref b), .val (.int (0 : Int32)), .val (.int (0 : Int32)), .val .null, .unset] [(.ref a)])) rfl (hb hby own_h245) (n := 0) (by decide) (by decide) (by decide) (by decide)
 have Sf103 := C99.safe F69.lt Sf78
 have ne104 := (ne101 _ Sf103).1
 have ne105 := (ne101 _ Sf103).2
 have F106 := Exa.ext (h' := h82) E88 F69
 have F107 := Fld.ext (h' := h82) E88 F70
 have F108 := Fld.ext (h' := h82) E88 F71
 have F109 := F72.ext E88
 have F110 := Exa.ext (h' := h82) E88 F73
 have F111 := Fld.ext (h' := h82) E88 F74
 have F112 := Fld.ext (h' := h82) E88 F75
 have Z113 : n0 ≤ h82.size := Nat.le_trans Z76 E88.1
 have P114 : Keep h0 h82 [a] := P77.ext E88
 have Cr115 := Cr79.trans C99
 have k8 : own_J p e below T81 m 20 #[.val (.ref a), .val (.ref b), .val (.int (0 : Int32)), .val (.int (0 : Int32)), .val .null, .unset] [(.ref a80), (.ref a)] B_ := fun t_ hh => k7 t_ (st102 t_ hh)
 clear k7 st102 X63 e64
 obtain ⟨T116, X117, e118, st119⟩ := getF X86 hx hZ91 hown92 (host := "") (Or.inl (wT hw 48 rfl)) Via.refl e87 F94 (g := (mkF m 20 #[.val (.ref a), .val (.ref b), .val (.int (0 : Int32)), .val (.int (0 : Int32)), .val .null, .unset] [(.ref a80), (.ref a)])) rfl rfl (hb hby own_h246)
 have k9 : own_J p e below T116 m 23 #[.val (.ref a), .val (.ref b), .val (.int (0 : Int32)), .val (.int (0 : Int32)), .val .null, .unset] [(.int (0 : Int32)), (.ref a)] B_ := fun t_ hh => k8 t_ (st119 t_ hh)
 clear k8 st119 X86 e87
 obtain ⟨T120, h121, X122, e123, W124, st125⟩ := putF X117 hx hZ91 hown92 (host := "") (Or.inl (wT hw 48 rfl)) Via.refl e118 F108 F106 (Or.inr ⟨(wT hw 49 rfl), rfl, hnm⟩) (wT hw 24 rfl) (ty := .byte) (by decide) rfl rfl (g := (mkF m 23 #[.val (.ref a), .val (.ref b), .val (.int (0 : Int32)), .val (.int (0 : Int32)), .val .null, .unset] [(.int (0 : Int32)), (.ref a)])) rfl rfl (hb hby own_h247)
 have N126 := Fr.snoc X122 N67 f3_
 have hk127 := Nat.le_trans hk90 (show h82.size ≤ h121.size from Nat.le_of_eq W124.size.symm)
 have F128 := Exa.wr W124 F106
 have F129 := Fld.other W124 F107 (Or.inr (slot_ne (Or.inr (wT hw 51 rfl)) (Or.inr (wT hw 49 rfl)) (by decide) (t := (.array .byte)) (t' := .byte) (by decide) (by decide)))
 have F130 : Fld Z h121 a "java/lang/String" "coder" "B" (.int (0 : Int32)) := Fld.same W124 F108
 have F131 := F109.other W124 (Ne.symm ne50)
 have F132 := Exa.wr W124 F110
 have F133 := Fld.other W124 F111 (Or.inl (Ne.symm ne49))
 have F134 := Fld.other W124 F112 (Or.inl (Ne.symm ne49))
 have F135 := F96.other W124 (Ne.symm ne105)
 have F136 := Exa.wr W124 E93
 have F137 := Fld.other W124 F95 (Or.inl (Ne.symm ne104))
 have F138 := Fld.other W124 F94 (Or.inl (Ne.symm ne104))
 have Z139 : n0 ≤ h121.size := W124.size ▸ Z113
 have P140 : Keep h0 h121 [a] := P114.wr W124 (Or.inl (List.mem_of_getElem? (i := 0) rfl))
 have Sf141 := Safe.wr W124 Sf103 Cr115.1 Sf103
 have Cr142 := Cr115.trans (CHr.wr W124 Sf103 Cr115.1)
 have k10 : own_J p e below T120 m 26 #[.val (.ref a), .val (.ref b), .val (.int (0 : Int32)), .val (.int (0 : Int32)), .val .null, .unset] [] B_ := fun t_ hh => k9 t_ (st125 t_ hh)
 clear k9 st125 X117 e118
 obtain ⟨fs, hr, hrun, hended, hEnd⟩ := X122.leaveW hS89 (by rw [e123]; exact hk127) (v := none) (fun _ => rfl)
 refine ⟨_, _, (own_from hB_ (k10 _ (X122.returnOut hx Bd.returns (hb hby own_h248) hr))), hrun, hended, _, _, rfl, ?_, ?_, hEnd.1, hEnd.2.1, hEnd.2.2.1, hEnd.2.2.2.mono (own_l rfl) (own_l rfl)⟩
 rotate_left
 · show CHr Z own_EL s.vm s.heap T120.vm T120.heap
   rw [hh, e123]
   exact Cr142.trans (CHv.at X122 hZ91 (own_EW hw) Cr142.1)
 show Q_rmI0 Z a b h0 n0 _ T120.heap _
 rw [e123]
 exact ⟨b29, kb30, rfl, N126, P140, F128, F129, F130, F131, trivial⟩
def Q_rmS0 (Z : State) (a : Addr) (b : Addr) (kb : ClassId) (h0 : Heap) (n0 : Nat) (v : Option Value) (h : Heap) (L : List Loc) : Prop := ∃ t : Addr, ∃ kt : ClassId, v = none ∧ Fr n0 L ∧ Keep h0 h [a] ∧ Exa Z h a "java/lang/String" ∧ Fld Z h a "java/lang/String" "value" "[B" (.ref t) ∧ Fld Z h a "java/lang/String" "coder" "B" (.int (0 : Int32)) ∧ Arv Z h t kt .byte (0 : Int32) [] (.int 0) ∧ True
theorem rmS0 (l : Launch) (Z : State) (a0 : Array Value) (hw : ∀ d ∈ tables_1, d.before a0 Z = true) (ws : List Jvm.Cond) (a : Addr) (b : Addr) (kb : ClassId) (h0 : Heap) (n0 : Nat) (Z0 : n0 ≤ h0.size) (f0_ : Exa Z h0 a "java/lang/String") (f1_ : Fld Z h0 a "java/lang/String" "value" "[B" .null) (f2_ : Fld Z h0 a "java/lang/String" "coder" "B" (.int (0 : Int32))) (f3_ : n0 ≤ a) (f4_ : Arv Z h0 b kb .char (0 : Int32) [] (.int (0 : Int32))) (f5_ : b ≠ a)  :
    MetFree l (⟨"java/lang/String", "<init>", "([C)V"⟩ : MethodName) (head1 (Jvm.Cond.code (⟨"java/lang/String", "<init>", "([C)V"⟩ : MethodName) jdk_42_method_3_code 2 none :: ws) (rO 2 4 8 29)) (fun ar_ U => ar_ = #[(.ref a), (.ref b)] ∧ Z.Warmed39 U.vm ∧ U.heap = h0 ∧ CHv Z own_EL U.vm h0) (fun _ _ _ _ _ => True) (fun _ U o U' => ∃ v L, o = .returned v ∧ Q_rmS0 Z a b kb h0 n0 v U'.heap L ∧ CHr Z own_EL U.vm U.heap U'.vm U'.heap ∧ ReturnedEndW U o U' L (rO 2 4 8 29).cells (rO 2 4 8 29).slots) := by
 refine MetFree.of_bodySF (plainFor_of_name own_h9) hisR ?_
 intro p e s m args below meth c s₁ Bd hml0 hP hK
 obtain ⟨rfl, hZ, hh, hCH⟩ := hP
 have hx := Bd.exec
 have hby := Bd.bytes
 have hml : c.maxLocals = 2 := hml0
 have hown : s.vm.findClass "java/lang/String" = some m.cls := findClass_of_methodNamed Bd.named
 have hnm := (name_of_methodNamed Bd.named Bd.method).1
 have X0 : Stand p l e (rO 2 4 8 29) (s.setVm s.vm) m #[(.ref a), (.ref b)] below meth c s₁ [] 0 0 := Stand.of_body Bd
 have hS0 : s.Since s.vm 0 := (State.WarmedH.refl s).since 0
 have hk0 : 0 ≤ h0.size := Nat.zero_le _
 have hZ : Z.Warmed39 (s.setVm s.vm).vm := hZ
 have hown : (s.setVm s.vm).vm.findClass "java/lang/String" = some m.cls := hown
 have Cr0 : CHr Z own_EL s.vm h0 s.vm h0 := CHr.refl hCH
 have e0 : s₁.heap = h0 := by rw [← hh, Bd.state]; rfl
 have N0 := Fr.nil n0
 obtain ⟨B_, hB_⟩ : ∃ z, z = s₁.setTop (entryFrame m #[(.ref a), (.ref b)] 2) := ⟨_, rfl⟩
 have k0 : own_K p e below (s₁.setTop (mkF m 0 #[.val (.ref a), .val (.ref b)] [])) B_ := by rw [hB_]; exact fun t k => castTop (by clear k; first | (simp [entryFrame, mkF, argsToLocals, Value.category, maxLocals]; done) | rfl) k
 have K0 : Keep h0 h0 [a] := Keep.refl _ _
 have Sf0 := own_safe_null (EL := own_EL) hZ.alike f0_ f1_
 obtain ⟨cl21, Ar22, -, S23, Ng24, -, -⟩ := id f4_
 have k1 : own_J p e below s₁ m 6 #[.val (.ref a), .val (.ref b)] [.null, (.int (0 : Int32)), (.int (0 : Int32)), (.ref b), (.ref a)] B_ := fun t_ hh => k0 t_ (by
  refine XS.aloadN X0.here hx rfl (hb hby own_h231) rfl rfl ?_
  refine XS.aloadN X0.here hx rfl (hb hby own_h232) rfl rfl ?_
  refine XS.iconst X0.here hx rfl (hb hby own_h233) ?_
  refine XS.aloadN X0.here hx rfl (hb hby own_h234) rfl rfl ?_
  refine X0.arraylength hx (by rw [e0]; exact Ar22.1) (State.isArrayOf_alike hZ.alike Ar22.2.1) (g := (mkF m 4 #[.val (.ref a), .val (.ref b)] [(.ref b), (.int (0 : Int32)), (.ref b), (.ref a)])) rfl rfl (hb hby own_h235) _ ?_
  rw [len_of S23 Ng24]
  refine XS.aconstNull X0.here hx rfl (hb hby own_h236) ?_
  exact hh)
 obtain ⟨_, _, ⟨T25, L26, k_27, n_28⟩, -, X29, hSc36, hgr37, ⟨Lc30, hQ31, l_32, y_33, z_34, C38⟩, st35⟩ := X0.specialBackS hx (y := (⟨"java/lang/String", "<init>", "([CIILjava/lang/Void;)V"⟩ : MethodName)) rfl hown (mvT hZ (wT hw 29 rfl)) (mvT hZ (wT hw 30 rfl)) (mvT hZ (wT hw 32 rfl)) (by decide) (backOfSH (W := 0) (rmI0 l Z a0 hw [] a b h0 n0 Z0 f0_ f1_ f2_ f3_ ) hZ (wT hw 32 rfl) (wT hw 25 rfl) (by decide) (by decide) (own_EW hw) Cr0.1) (g := (mkF m 6 #[.val (.ref a), .val (.ref b)] [.null, (.int (0 : Int32)), (.int (0 : Int32)), (.ref b), (.ref a)])) rfl (by rw [hml]; rfl) (Steps.refl _) (a := a) (argsL := [(.ref b), (.int (0 : Int32)), (.int (0 : Int32)), .null]) (rest := []) (lenOf own_h238 rfl) rfl (by show 2 * 0 + _ ≤ _; exact Nat.le_of_eq rfl) (hb hby own_h237) (fun _ _ => ⟨rfl, e0, own_l rfl, own_l rfl⟩)
 dsimp only [Pt.U, Pt.locs, Pt.cells, Pt.slots] at X29 hSc36 hgr37 l_32 y_33 z_34 st35 hQ31 C38
 replace l_32 := l_32.symm
 subst l_32 y_33 z_34
 obtain ⟨X39, hS40, hZ41, hown42⟩ := rebS hS0 (by rw [e0]; exact hk0) X29 hSc36 hgr37 hZ hown
 have Sf43 := C38.safe f0_.lt Sf0
 have Cr44 := Cr0.trans C38
 obtain ⟨t46, kt47, rfl, N45, K52, F48, F49, F50, F51, -⟩ := hQ31
 have N53 := Fr.app N0 N45
 have F54 := f0_.keep K52
 have F55 := f4_.keep K52 (ninS f5_ nin0)
 have Z56 : n0 ≤ T25.heap.size := Nat.le_trans Z0 K52.1
 have hk57 := Nat.le_trans hk0 K52.1
 have P58 : Keep h0 T25.heap [a] := K0.trans K52 (allS (P := fun x => x ∈ [a] ∨ h0.size ≤ x) (Or.inl (List.mem_of_getElem? (i := 0) rfl)) all0)
 have e59 : T25.heap = T25.heap := rfl
 have k2 : own_J p e below T25 m 9 #[.val (.ref a), .val (.ref b)] [] B_ := fun t_ hh => k1 t_ (st35.trans hh)
 clear k1 st35
 obtain ⟨fs, hr, hrun, hended, hEnd⟩ := X39.leaveW hS40 (by rw [e59]; exact (Nat.le_refl T25.heap.size)) (v := none) (fun _ => rfl)
 refine ⟨_, _, (own_from hB_ (k2 _ (X39.returnOut hx Bd.returns (hb hby own_h239) hr))), hrun, hended, _, _, rfl, ?_, ?_, hEnd.1, hEnd.2.1, hEnd.2.2.1, hEnd.2.2.2.mono (own_l rfl) (own_l rfl)⟩
 rotate_left
 · show CHr Z own_EL s.vm s.heap T25.vm T25.heap
   rw [hh, e59]
   exact Cr44.trans (CHv.at X39 hZ41 (own_EW hw) Cr44.1)
 show Q_rmS0 Z a b kb h0 n0 _ T25.heap _
 rw [e59]
 exact ⟨t46, kt47, rfl, N53, P58, F48, F49, F50, F51, trivial⟩
def Q_mk (Z : State) (nv b0 b1 b2 b3 b4 b5 b6 b7 b8 b9 b10 : Int32) (h0 : Heap) (n0 : Nat) (v : Option Value) (h : Heap) (L : List Loc) : Prop := ∃ r : Addr, v = some (.ref r) ∧ Fr n0 L ∧ Keep h0 h [] ∧ n0 ≤ r ∧ Exa Z h r "java/lang/String" ∧ own_S Z h r (([b0, b1, b2, b3, b4, b5, b6, b7, b8, b9, b10] : List Int32).drop (11 - nv.toInt.toNat))
theorem own_h249 : plainName "com/example/commitlog/commitlog/ConsumeQueuesQueueIdOfPinLaw" = true := by first | (simp [plainName, overriddenIn]; done) | decide +kernel
theorem own_h250 : decode method_4_code 0 = .ok (.iload_n 1, 1) := by decide +kernel
theorem own_h251 : decode method_4_code 1 = .ok (.ifCond .ne 14, 3) := by decide +kernel
theorem own_h252 : decode method_4_code 4 = .ok (.new 55, 3) := by decide +kernel
theorem own_h253 : decode method_4_code 7 = .ok (.dup, 1) := by decide +kernel
theorem own_h254 : decode method_4_code 8 = .ok (.iconst 0, 1) := by decide +kernel
theorem own_h255 : decode method_4_code 9 = .ok (.newarray .char, 2) := by decide +kernel
theorem own_h256 : decode method_4_code 11 = .ok (.invokespecial 57, 3) := by decide +kernel
theorem own_h257 : parseMethodDescriptor "([C)V" = some ⟨[.array .char], none⟩ := by decide +kernel
theorem own_h258 : decode method_4_code 14 = .ok (.areturn, 1) := by decide +kernel
theorem own_h259 : decode method_4_code 15 = .ok (.iload_n 1, 1) := by decide +kernel
theorem own_h260 : decode method_4_code 16 = .ok (.iconst 1, 1) := by decide +kernel
theorem own_h261 : decode method_4_code 17 = .ok (.if_icmp .ne 21, 3) := by decide +kernel
theorem own_h262 : decode method_4_code 20 = .ok (.new 55, 3) := by decide +kernel
theorem own_h263 : decode method_4_code 23 = .ok (.dup, 1) := by decide +kernel
theorem own_h264 : decode method_4_code 24 = .ok (.iconst 1, 1) := by decide +kernel
theorem own_h265 : decode method_4_code 25 = .ok (.newarray .char, 2) := by decide +kernel
theorem own_h266 : decode method_4_code 27 = .ok (.dup, 1) := by decide +kernel
theorem own_h267 : decode method_4_code 28 = .ok (.iconst 0, 1) := by decide +kernel
theorem own_h268 : decode method_4_code 29 = .ok (.aload_n 0, 1) := by decide +kernel
theorem own_h269 : decode method_4_code 30 = .ok (.bipush 10, 2) := by decide +kernel
theorem own_h270 : decode method_4_code 32 = .ok (.caload, 1) := by decide +kernel
theorem own_h271 : decode method_4_code 33 = .ok (.castore, 1) := by decide +kernel
theorem own_h272 : decode method_4_code 34 = .ok (.invokespecial 57, 3) := by decide +kernel
theorem own_h273 : decode method_4_code 37 = .ok (.areturn, 1) := by decide +kernel
theorem own_h274 : decode method_4_code 38 = .ok (.iload_n 1, 1) := by decide +kernel
theorem own_h275 : decode method_4_code 39 = .ok (.iconst 2, 1) := by decide +kernel
theorem own_h276 : decode method_4_code 40 = .ok (.if_icmp .ne 28, 3) := by decide +kernel
theorem own_h277 : decode method_4_code 43 = .ok (.new 55, 3) := by decide +kernel
theorem own_h278 : decode method_4_code 46 = .ok (.dup, 1) := by decide +kernel
theorem own_h279 : decode method_4_code 47 = .ok (.iconst 2, 1) := by decide +kernel
theorem own_h280 : decode method_4_code 48 = .ok (.newarray .char, 2) := by decide +kernel
theorem own_h281 : decode method_4_code 50 = .ok (.dup, 1) := by decide +kernel
theorem own_h282 : decode method_4_code 51 = .ok (.iconst 0, 1) := by decide +kernel
theorem own_h283 : decode method_4_code 52 = .ok (.aload_n 0, 1) := by decide +kernel
theorem own_h284 : decode method_4_code 53 = .ok (.bipush 9, 2) := by decide +kernel
theorem own_h285 : decode method_4_code 55 = .ok (.caload, 1) := by decide +kernel
theorem own_h286 : decode method_4_code 56 = .ok (.castore, 1) := by decide +kernel
theorem own_h287 : decode method_4_code 57 = .ok (.dup, 1) := by decide +kernel
theorem own_h288 : decode method_4_code 58 = .ok (.iconst 1, 1) := by decide +kernel
theorem own_h289 : decode method_4_code 59 = .ok (.aload_n 0, 1) := by decide +kernel
theorem own_h290 : decode method_4_code 60 = .ok (.bipush 10, 2) := by decide +kernel
theorem own_h291 : decode method_4_code 62 = .ok (.caload, 1) := by decide +kernel
theorem own_h292 : decode method_4_code 63 = .ok (.castore, 1) := by decide +kernel
theorem own_h293 : decode method_4_code 64 = .ok (.invokespecial 57, 3) := by decide +kernel
theorem own_h294 : decode method_4_code 67 = .ok (.areturn, 1) := by decide +kernel
theorem own_h295 : decode method_4_code 68 = .ok (.iload_n 1, 1) := by decide +kernel
theorem own_h296 : decode method_4_code 69 = .ok (.iconst 3, 1) := by decide +kernel
theorem own_h297 : decode method_4_code 70 = .ok (.if_icmp .ne 35, 3) := by decide +kernel
theorem own_h298 : decode method_4_code 73 = .ok (.new 55, 3) := by decide +kernel
theorem own_h299 : decode method_4_code 76 = .ok (.dup, 1) := by decide +kernel
theorem own_h300 : decode method_4_code 77 = .ok (.iconst 3, 1) := by decide +kernel
theorem own_h301 : decode method_4_code 78 = .ok (.newarray .char, 2) := by decide +kernel
theorem own_h302 : decode method_4_code 80 = .ok (.dup, 1) := by decide +kernel
theorem own_h303 : decode method_4_code 81 = .ok (.iconst 0, 1) := by decide +kernel
theorem own_h304 : decode method_4_code 82 = .ok (.aload_n 0, 1) := by decide +kernel
theorem own_h305 : decode method_4_code 83 = .ok (.bipush 8, 2) := by decide +kernel
theorem own_h306 : decode method_4_code 85 = .ok (.caload, 1) := by decide +kernel
theorem own_h307 : decode method_4_code 86 = .ok (.castore, 1) := by decide +kernel
theorem own_h308 : decode method_4_code 87 = .ok (.dup, 1) := by decide +kernel
theorem own_h309 : decode method_4_code 88 = .ok (.iconst 1, 1) := by decide +kernel
theorem own_h310 : decode method_4_code 89 = .ok (.aload_n 0, 1) := by decide +kernel
theorem own_h311 : decode method_4_code 90 = .ok (.bipush 9, 2) := by decide +kernel
theorem own_h312 : decode method_4_code 92 = .ok (.caload, 1) := by decide +kernel
theorem own_h313 : decode method_4_code 93 = .ok (.castore, 1) := by decide +kernel
theorem own_h314 : decode method_4_code 94 = .ok (.dup, 1) := by decide +kernel
theorem own_h315 : decode method_4_code 95 = .ok (.iconst 2, 1) := by decide +kernel
theorem own_h316 : decode method_4_code 96 = .ok (.aload_n 0, 1) := by decide +kernel
theorem own_h317 : decode method_4_code 97 = .ok (.bipush 10, 2) := by decide +kernel
theorem own_h318 : decode method_4_code 99 = .ok (.caload, 1) := by decide +kernel
theorem own_h319 : decode method_4_code 100 = .ok (.castore, 1) := by decide +kernel
theorem own_h320 : decode method_4_code 101 = .ok (.invokespecial 57, 3) := by decide +kernel
theorem own_h321 : decode method_4_code 104 = .ok (.areturn, 1) := by decide +kernel
theorem own_h322 : decode method_4_code 105 = .ok (.iload_n 1, 1) := by decide +kernel
theorem own_h323 : decode method_4_code 106 = .ok (.iconst 4, 1) := by decide +kernel
theorem own_h324 : decode method_4_code 107 = .ok (.if_icmp .ne 42, 3) := by decide +kernel
theorem own_h325 : decode method_4_code 110 = .ok (.new 55, 3) := by decide +kernel
theorem own_h326 : decode method_4_code 113 = .ok (.dup, 1) := by decide +kernel
theorem own_h327 : decode method_4_code 114 = .ok (.iconst 4, 1) := by decide +kernel
theorem own_h328 : decode method_4_code 115 = .ok (.newarray .char, 2) := by decide +kernel
theorem own_h329 : decode method_4_code 117 = .ok (.dup, 1) := by decide +kernel
theorem own_h330 : decode method_4_code 118 = .ok (.iconst 0, 1) := by decide +kernel
theorem own_h331 : decode method_4_code 119 = .ok (.aload_n 0, 1) := by decide +kernel
theorem own_h332 : decode method_4_code 120 = .ok (.bipush 7, 2) := by decide +kernel
theorem own_h333 : decode method_4_code 122 = .ok (.caload, 1) := by decide +kernel
theorem own_h334 : decode method_4_code 123 = .ok (.castore, 1) := by decide +kernel
theorem own_h335 : decode method_4_code 124 = .ok (.dup, 1) := by decide +kernel
theorem own_h336 : decode method_4_code 125 = .ok (.iconst 1, 1) := by decide +kernel
theorem own_h337 : decode method_4_code 126 = .ok (.aload_n 0, 1) := by decide +kernel
theorem own_h338 : decode method_4_code 127 = .ok (.bipush 8, 2) := by decide +kernel
theorem own_h339 : decode method_4_code 129 = .ok (.caload, 1) := by decide +kernel
theorem own_h340 : decode method_4_code 130 = .ok (.castore, 1) := by decide +kernel
theorem own_h341 : decode method_4_code 131 = .ok (.dup, 1) := by decide +kernel
theorem own_h342 : decode method_4_code 132 = .ok (.iconst 2, 1) := by decide +kernel
theorem own_h343 : decode method_4_code 133 = .ok (.aload_n 0, 1) := by decide +kernel
theorem own_h344 : decode method_4_code 134 = .ok (.bipush 9, 2) := by decide +kernel
theorem own_h345 : decode method_4_code 136 = .ok (.caload, 1) := by decide +kernel
theorem own_h346 : decode method_4_code 137 = .ok (.castore, 1) := by decide +kernel
theorem own_h347 : decode method_4_code 138 = .ok (.dup, 1) := by decide +kernel
theorem own_h348 : decode method_4_code 139 = .ok (.iconst 3, 1) := by decide +kernel
theorem own_h349 : decode method_4_code 140 = .ok (.aload_n 0, 1) := by decide +kernel
theorem own_h350 : decode method_4_code 141 = .ok (.bipush 10, 2) := by decide +kernel
theorem own_h351 : decode method_4_code 143 = .ok (.caload, 1) := by decide +kernel
theorem own_h352 : decode method_4_code 144 = .ok (.castore, 1) := by decide +kernel
theorem own_h353 : decode method_4_code 145 = .ok (.invokespecial 57, 3) := by decide +kernel
theorem own_h354 : decode method_4_code 148 = .ok (.areturn, 1) := by decide +kernel
theorem own_h355 : decode method_4_code 149 = .ok (.iload_n 1, 1) := by decide +kernel
theorem own_h356 : decode method_4_code 150 = .ok (.iconst 5, 1) := by decide +kernel
theorem own_h357 : decode method_4_code 151 = .ok (.if_icmp .ne 49, 3) := by decide +kernel
theorem own_h358 : decode method_4_code 154 = .ok (.new 55, 3) := by decide +kernel
theorem own_h359 : decode method_4_code 157 = .ok (.dup, 1) := by decide +kernel
theorem own_h360 : decode method_4_code 158 = .ok (.iconst 5, 1) := by decide +kernel
theorem own_h361 : decode method_4_code 159 = .ok (.newarray .char, 2) := by decide +kernel
theorem own_h362 : decode method_4_code 161 = .ok (.dup, 1) := by decide +kernel
theorem own_h363 : decode method_4_code 162 = .ok (.iconst 0, 1) := by decide +kernel
theorem own_h364 : decode method_4_code 163 = .ok (.aload_n 0, 1) := by decide +kernel
theorem own_h365 : decode method_4_code 164 = .ok (.bipush 6, 2) := by decide +kernel
theorem own_h366 : decode method_4_code 166 = .ok (.caload, 1) := by decide +kernel
theorem own_h367 : decode method_4_code 167 = .ok (.castore, 1) := by decide +kernel
theorem own_h368 : decode method_4_code 168 = .ok (.dup, 1) := by decide +kernel
theorem own_h369 : decode method_4_code 169 = .ok (.iconst 1, 1) := by decide +kernel
theorem own_h370 : decode method_4_code 170 = .ok (.aload_n 0, 1) := by decide +kernel
theorem own_h371 : decode method_4_code 171 = .ok (.bipush 7, 2) := by decide +kernel
theorem own_h372 : decode method_4_code 173 = .ok (.caload, 1) := by decide +kernel
theorem own_h373 : decode method_4_code 174 = .ok (.castore, 1) := by decide +kernel
theorem own_h374 : decode method_4_code 175 = .ok (.dup, 1) := by decide +kernel
theorem own_h375 : decode method_4_code 176 = .ok (.iconst 2, 1) := by decide +kernel
theorem own_h376 : decode method_4_code 177 = .ok (.aload_n 0, 1) := by decide +kernel
theorem own_h377 : decode method_4_code 178 = .ok (.bipush 8, 2) := by decide +kernel
theorem own_h378 : decode method_4_code 180 = .ok (.caload, 1) := by decide +kernel
theorem own_h379 : decode method_4_code 181 = .ok (.castore, 1) := by decide +kernel
theorem own_h380 : decode method_4_code 182 = .ok (.dup, 1) := by decide +kernel
theorem own_h381 : decode method_4_code 183 = .ok (.iconst 3, 1) := by decide +kernel
theorem own_h382 : decode method_4_code 184 = .ok (.aload_n 0, 1) := by decide +kernel
theorem own_h383 : decode method_4_code 185 = .ok (.bipush 9, 2) := by decide +kernel
theorem own_h384 : decode method_4_code 187 = .ok (.caload, 1) := by decide +kernel
theorem own_h385 : decode method_4_code 188 = .ok (.castore, 1) := by decide +kernel
theorem own_h386 : decode method_4_code 189 = .ok (.dup, 1) := by decide +kernel
theorem own_h387 : decode method_4_code 190 = .ok (.iconst 4, 1) := by decide +kernel
theorem own_h388 : decode method_4_code 191 = .ok (.aload_n 0, 1) := by decide +kernel
theorem own_h389 : decode method_4_code 192 = .ok (.bipush 10, 2) := by decide +kernel
theorem own_h390 : decode method_4_code 194 = .ok (.caload, 1) := by decide +kernel
theorem own_h391 : decode method_4_code 195 = .ok (.castore, 1) := by decide +kernel
theorem own_h392 : decode method_4_code 196 = .ok (.invokespecial 57, 3) := by decide +kernel
theorem own_h393 : decode method_4_code 199 = .ok (.areturn, 1) := by decide +kernel
theorem own_h394 : decode method_4_code 200 = .ok (.iload_n 1, 1) := by decide +kernel
theorem own_h395 : decode method_4_code 201 = .ok (.bipush 6, 2) := by decide +kernel
theorem own_h396 : decode method_4_code 203 = .ok (.if_icmp .ne 56, 3) := by decide +kernel
theorem own_h397 : decode method_4_code 206 = .ok (.new 55, 3) := by decide +kernel
theorem own_h398 : decode method_4_code 209 = .ok (.dup, 1) := by decide +kernel
theorem own_h399 : decode method_4_code 210 = .ok (.bipush 6, 2) := by decide +kernel
theorem own_h400 : decode method_4_code 212 = .ok (.newarray .char, 2) := by decide +kernel
theorem own_h401 : decode method_4_code 214 = .ok (.dup, 1) := by decide +kernel
theorem own_h402 : decode method_4_code 215 = .ok (.iconst 0, 1) := by decide +kernel
theorem own_h403 : decode method_4_code 216 = .ok (.aload_n 0, 1) := by decide +kernel
theorem own_h404 : decode method_4_code 217 = .ok (.iconst 5, 1) := by decide +kernel
theorem own_h405 : decode method_4_code 218 = .ok (.caload, 1) := by decide +kernel
theorem own_h406 : decode method_4_code 219 = .ok (.castore, 1) := by decide +kernel
theorem own_h407 : decode method_4_code 220 = .ok (.dup, 1) := by decide +kernel
theorem own_h408 : decode method_4_code 221 = .ok (.iconst 1, 1) := by decide +kernel
theorem own_h409 : decode method_4_code 222 = .ok (.aload_n 0, 1) := by decide +kernel
theorem own_h410 : decode method_4_code 223 = .ok (.bipush 6, 2) := by decide +kernel
theorem own_h411 : decode method_4_code 225 = .ok (.caload, 1) := by decide +kernel
theorem own_h412 : decode method_4_code 226 = .ok (.castore, 1) := by decide +kernel
theorem own_h413 : decode method_4_code 227 = .ok (.dup, 1) := by decide +kernel
theorem own_h414 : decode method_4_code 228 = .ok (.iconst 2, 1) := by decide +kernel
theorem own_h415 : decode method_4_code 229 = .ok (.aload_n 0, 1) := by decide +kernel
theorem own_h416 : decode method_4_code 230 = .ok (.bipush 7, 2) := by decide +kernel
theorem own_h417 : decode method_4_code 232 = .ok (.caload, 1) := by decide +kernel
theorem own_h418 : decode method_4_code 233 = .ok (.castore, 1) := by decide +kernel
theorem own_h419 : decode method_4_code 234 = .ok (.dup, 1) := by decide +kernel
theorem own_h420 : decode method_4_code 235 = .ok (.iconst 3, 1) := by decide +kernel
theorem own_h421 : decode method_4_code 236 = .ok (.aload_n 0, 1) := by decide +kernel
theorem own_h422 : decode method_4_code 237 = .ok (.bipush 8, 2) := by decide +kernel
theorem own_h423 : decode method_4_code 239 = .ok (.caload, 1) := by decide +kernel
theorem own_h424 : decode method_4_code 240 = .ok (.castore, 1) := by decide +kernel
theorem own_h425 : decode method_4_code 241 = .ok (.dup, 1) := by decide +kernel
theorem own_h426 : decode method_4_code 242 = .ok (.iconst 4, 1) := by decide +kernel
theorem own_h427 : decode method_4_code 243 = .ok (.aload_n 0, 1) := by decide +kernel
theorem own_h428 : decode method_4_code 244 = .ok (.bipush 9, 2) := by decide +kernel
theorem own_h429 : decode method_4_code 246 = .ok (.caload, 1) := by decide +kernel
theorem own_h430 : decode method_4_code 247 = .ok (.castore, 1) := by decide +kernel
theorem own_h431 : decode method_4_code 248 = .ok (.dup, 1) := by decide +kernel
theorem own_h432 : decode method_4_code 249 = .ok (.iconst 5, 1) := by decide +kernel
theorem own_h433 : decode method_4_code 250 = .ok (.aload_n 0, 1) := by decide +kernel
theorem own_h434 : decode method_4_code 251 = .ok (.bipush 10, 2) := by decide +kernel
theorem own_h435 : decode method_4_code 253 = .ok (.caload, 1) := by decide +kernel
theorem own_h436 : decode method_4_code 254 = .ok (.castore, 1) := by decide +kernel
theorem own_h437 : decode method_4_code 255 = .ok (.invokespecial 57, 3) := by decide +kernel
theorem own_h438 : decode method_4_code 258 = .ok (.areturn, 1) := by decide +kernel
theorem own_h439 : decode method_4_code 259 = .ok (.iload_n 1, 1) := by decide +kernel
theorem own_h440 : decode method_4_code 260 = .ok (.bipush 7, 2) := by decide +kernel
theorem own_h441 : decode method_4_code 262 = .ok (.if_icmp .ne 63, 3) := by decide +kernel
theorem own_h442 : decode method_4_code 265 = .ok (.new 55, 3) := by decide +kernel
theorem own_h443 : decode method_4_code 268 = .ok (.dup, 1) := by decide +kernel
theorem own_h444 : decode method_4_code 269 = .ok (.bipush 7, 2) := by decide +kernel
theorem own_h445 : decode method_4_code 271 = .ok (.newarray .char, 2) := by decide +kernel
theorem own_h446 : decode method_4_code 273 = .ok (.dup, 1) := by decide +kernel
theorem own_h447 : decode method_4_code 274 = .ok (.iconst 0, 1) := by decide +kernel
theorem own_h448 : decode method_4_code 275 = .ok (.aload_n 0, 1) := by decide +kernel
theorem own_h449 : decode method_4_code 276 = .ok (.iconst 4, 1) := by decide +kernel
theorem own_h450 : decode method_4_code 277 = .ok (.caload, 1) := by decide +kernel
theorem own_h451 : decode method_4_code 278 = .ok (.castore, 1) := by decide +kernel
theorem own_h452 : decode method_4_code 279 = .ok (.dup, 1) := by decide +kernel
theorem own_h453 : decode method_4_code 280 = .ok (.iconst 1, 1) := by decide +kernel
theorem own_h454 : decode method_4_code 281 = .ok (.aload_n 0, 1) := by decide +kernel
theorem own_h455 : decode method_4_code 282 = .ok (.iconst 5, 1) := by decide +kernel
theorem own_h456 : decode method_4_code 283 = .ok (.caload, 1) := by decide +kernel
theorem own_h457 : decode method_4_code 284 = .ok (.castore, 1) := by decide +kernel
theorem own_h458 : decode method_4_code 285 = .ok (.dup, 1) := by decide +kernel
theorem own_h459 : decode method_4_code 286 = .ok (.iconst 2, 1) := by decide +kernel
theorem own_h460 : decode method_4_code 287 = .ok (.aload_n 0, 1) := by decide +kernel
theorem own_h461 : decode method_4_code 288 = .ok (.bipush 6, 2) := by decide +kernel
theorem own_h462 : decode method_4_code 290 = .ok (.caload, 1) := by decide +kernel
theorem own_h463 : decode method_4_code 291 = .ok (.castore, 1) := by decide +kernel
theorem own_h464 : decode method_4_code 292 = .ok (.dup, 1) := by decide +kernel
theorem own_h465 : decode method_4_code 293 = .ok (.iconst 3, 1) := by decide +kernel
theorem own_h466 : decode method_4_code 294 = .ok (.aload_n 0, 1) := by decide +kernel
theorem own_h467 : decode method_4_code 295 = .ok (.bipush 7, 2) := by decide +kernel
theorem own_h468 : decode method_4_code 297 = .ok (.caload, 1) := by decide +kernel
theorem own_h469 : decode method_4_code 298 = .ok (.castore, 1) := by decide +kernel
theorem own_h470 : decode method_4_code 299 = .ok (.dup, 1) := by decide +kernel
theorem own_h471 : decode method_4_code 300 = .ok (.iconst 4, 1) := by decide +kernel
theorem own_h472 : decode method_4_code 301 = .ok (.aload_n 0, 1) := by decide +kernel
theorem own_h473 : decode method_4_code 302 = .ok (.bipush 8, 2) := by decide +kernel
theorem own_h474 : decode method_4_code 304 = .ok (.caload, 1) := by decide +kernel
theorem own_h475 : decode method_4_code 305 = .ok (.castore, 1) := by decide +kernel
theorem own_h476 : decode method_4_code 306 = .ok (.dup, 1) := by decide +kernel
theorem own_h477 : decode method_4_code 307 = .ok (.iconst 5, 1) := by decide +kernel
theorem own_h478 : decode method_4_code 308 = .ok (.aload_n 0, 1) := by decide +kernel
theorem own_h479 : decode method_4_code 309 = .ok (.bipush 9, 2) := by decide +kernel
theorem own_h480 : decode method_4_code 311 = .ok (.caload, 1) := by decide +kernel
theorem own_h481 : decode method_4_code 312 = .ok (.castore, 1) := by decide +kernel
theorem own_h482 : decode method_4_code 313 = .ok (.dup, 1) := by decide +kernel
theorem own_h483 : decode method_4_code 314 = .ok (.bipush 6, 2) := by decide +kernel
theorem own_h484 : decode method_4_code 316 = .ok (.aload_n 0, 1) := by decide +kernel
theorem own_h485 : decode method_4_code 317 = .ok (.bipush 10, 2) := by decide +kernel
theorem own_h486 : decode method_4_code 319 = .ok (.caload, 1) := by decide +kernel
theorem own_h487 : decode method_4_code 320 = .ok (.castore, 1) := by decide +kernel
theorem own_h488 : decode method_4_code 321 = .ok (.invokespecial 57, 3) := by decide +kernel
theorem own_h489 : decode method_4_code 324 = .ok (.areturn, 1) := by decide +kernel
theorem own_h490 : decode method_4_code 325 = .ok (.iload_n 1, 1) := by decide +kernel
theorem own_h491 : decode method_4_code 326 = .ok (.bipush 8, 2) := by decide +kernel
theorem own_h492 : decode method_4_code 328 = .ok (.if_icmp .ne 70, 3) := by decide +kernel
theorem own_h493 : decode method_4_code 331 = .ok (.new 55, 3) := by decide +kernel
theorem own_h494 : decode method_4_code 334 = .ok (.dup, 1) := by decide +kernel
theorem own_h495 : decode method_4_code 335 = .ok (.bipush 8, 2) := by decide +kernel
theorem own_h496 : decode method_4_code 337 = .ok (.newarray .char, 2) := by decide +kernel
theorem own_h497 : decode method_4_code 339 = .ok (.dup, 1) := by decide +kernel
theorem own_h498 : decode method_4_code 340 = .ok (.iconst 0, 1) := by decide +kernel
theorem own_h499 : decode method_4_code 341 = .ok (.aload_n 0, 1) := by decide +kernel
theorem own_h500 : decode method_4_code 342 = .ok (.iconst 3, 1) := by decide +kernel
theorem own_h501 : decode method_4_code 343 = .ok (.caload, 1) := by decide +kernel
theorem own_h502 : decode method_4_code 344 = .ok (.castore, 1) := by decide +kernel
theorem own_h503 : decode method_4_code 345 = .ok (.dup, 1) := by decide +kernel
theorem own_h504 : decode method_4_code 346 = .ok (.iconst 1, 1) := by decide +kernel
theorem own_h505 : decode method_4_code 347 = .ok (.aload_n 0, 1) := by decide +kernel
theorem own_h506 : decode method_4_code 348 = .ok (.iconst 4, 1) := by decide +kernel
theorem own_h507 : decode method_4_code 349 = .ok (.caload, 1) := by decide +kernel
theorem own_h508 : decode method_4_code 350 = .ok (.castore, 1) := by decide +kernel
theorem own_h509 : decode method_4_code 351 = .ok (.dup, 1) := by decide +kernel
theorem own_h510 : decode method_4_code 352 = .ok (.iconst 2, 1) := by decide +kernel
theorem own_h511 : decode method_4_code 353 = .ok (.aload_n 0, 1) := by decide +kernel
theorem own_h512 : decode method_4_code 354 = .ok (.iconst 5, 1) := by decide +kernel
theorem own_h513 : decode method_4_code 355 = .ok (.caload, 1) := by decide +kernel
theorem own_h514 : decode method_4_code 356 = .ok (.castore, 1) := by decide +kernel
theorem own_h515 : decode method_4_code 357 = .ok (.dup, 1) := by decide +kernel
theorem own_h516 : decode method_4_code 358 = .ok (.iconst 3, 1) := by decide +kernel
theorem own_h517 : decode method_4_code 359 = .ok (.aload_n 0, 1) := by decide +kernel
theorem own_h518 : decode method_4_code 360 = .ok (.bipush 6, 2) := by decide +kernel
theorem own_h519 : decode method_4_code 362 = .ok (.caload, 1) := by decide +kernel
theorem own_h520 : decode method_4_code 363 = .ok (.castore, 1) := by decide +kernel
theorem own_h521 : decode method_4_code 364 = .ok (.dup, 1) := by decide +kernel
theorem own_h522 : decode method_4_code 365 = .ok (.iconst 4, 1) := by decide +kernel
theorem own_h523 : decode method_4_code 366 = .ok (.aload_n 0, 1) := by decide +kernel
theorem own_h524 : decode method_4_code 367 = .ok (.bipush 7, 2) := by decide +kernel
theorem own_h525 : decode method_4_code 369 = .ok (.caload, 1) := by decide +kernel
theorem own_h526 : decode method_4_code 370 = .ok (.castore, 1) := by decide +kernel
theorem own_h527 : decode method_4_code 371 = .ok (.dup, 1) := by decide +kernel
theorem own_h528 : decode method_4_code 372 = .ok (.iconst 5, 1) := by decide +kernel
theorem own_h529 : decode method_4_code 373 = .ok (.aload_n 0, 1) := by decide +kernel
theorem own_h530 : decode method_4_code 374 = .ok (.bipush 8, 2) := by decide +kernel
theorem own_h531 : decode method_4_code 376 = .ok (.caload, 1) := by decide +kernel
theorem own_h532 : decode method_4_code 377 = .ok (.castore, 1) := by decide +kernel
theorem own_h533 : decode method_4_code 378 = .ok (.dup, 1) := by decide +kernel
theorem own_h534 : decode method_4_code 379 = .ok (.bipush 6, 2) := by decide +kernel
theorem own_h535 : decode method_4_code 381 = .ok (.aload_n 0, 1) := by decide +kernel
theorem own_h536 : decode method_4_code 382 = .ok (.bipush 9, 2) := by decide +kernel
theorem own_h537 : decode method_4_code 384 = .ok (.caload, 1) := by decide +kernel
theorem own_h538 : decode method_4_code 385 = .ok (.castore, 1) := by decide +kernel
theorem own_h539 : decode method_4_code 386 = .ok (.dup, 1) := by decide +kernel
theorem own_h540 : decode method_4_code 387 = .ok (.bipush 7, 2) := by decide +kernel
theorem own_h541 : decode method_4_code 389 = .ok (.aload_n 0, 1) := by decide +kernel
theorem own_h542 : decode method_4_code 390 = .ok (.bipush 10, 2) := by decide +kernel
theorem own_h543 : decode method_4_code 392 = .ok (.caload, 1) := by decide +kernel
theorem own_h544 : decode method_4_code 393 = .ok (.castore, 1) := by decide +kernel
theorem own_h545 : decode method_4_code 394 = .ok (.invokespecial 57, 3) := by decide +kernel
theorem own_h546 : decode method_4_code 397 = .ok (.areturn, 1) := by decide +kernel
theorem own_h547 : decode method_4_code 398 = .ok (.iload_n 1, 1) := by decide +kernel
theorem own_h548 : decode method_4_code 399 = .ok (.bipush 9, 2) := by decide +kernel
theorem own_h549 : decode method_4_code 401 = .ok (.if_icmp .ne 77, 3) := by decide +kernel
theorem own_h550 : decode method_4_code 404 = .ok (.new 55, 3) := by decide +kernel
theorem own_h551 : decode method_4_code 407 = .ok (.dup, 1) := by decide +kernel
theorem own_h552 : decode method_4_code 408 = .ok (.bipush 9, 2) := by decide +kernel
theorem own_h553 : decode method_4_code 410 = .ok (.newarray .char, 2) := by decide +kernel
theorem own_h554 : decode method_4_code 412 = .ok (.dup, 1) := by decide +kernel
theorem own_h555 : decode method_4_code 413 = .ok (.iconst 0, 1) := by decide +kernel
theorem own_h556 : decode method_4_code 414 = .ok (.aload_n 0, 1) := by decide +kernel
theorem own_h557 : decode method_4_code 415 = .ok (.iconst 2, 1) := by decide +kernel
theorem own_h558 : decode method_4_code 416 = .ok (.caload, 1) := by decide +kernel
theorem own_h559 : decode method_4_code 417 = .ok (.castore, 1) := by decide +kernel
theorem own_h560 : decode method_4_code 418 = .ok (.dup, 1) := by decide +kernel
theorem own_h561 : decode method_4_code 419 = .ok (.iconst 1, 1) := by decide +kernel
theorem own_h562 : decode method_4_code 420 = .ok (.aload_n 0, 1) := by decide +kernel
theorem own_h563 : decode method_4_code 421 = .ok (.iconst 3, 1) := by decide +kernel
theorem own_h564 : decode method_4_code 422 = .ok (.caload, 1) := by decide +kernel
theorem own_h565 : decode method_4_code 423 = .ok (.castore, 1) := by decide +kernel
theorem own_h566 : decode method_4_code 424 = .ok (.dup, 1) := by decide +kernel
theorem own_h567 : decode method_4_code 425 = .ok (.iconst 2, 1) := by decide +kernel
theorem own_h568 : decode method_4_code 426 = .ok (.aload_n 0, 1) := by decide +kernel
theorem own_h569 : decode method_4_code 427 = .ok (.iconst 4, 1) := by decide +kernel
theorem own_h570 : decode method_4_code 428 = .ok (.caload, 1) := by decide +kernel
theorem own_h571 : decode method_4_code 429 = .ok (.castore, 1) := by decide +kernel
theorem own_h572 : decode method_4_code 430 = .ok (.dup, 1) := by decide +kernel
theorem own_h573 : decode method_4_code 431 = .ok (.iconst 3, 1) := by decide +kernel
theorem own_h574 : decode method_4_code 432 = .ok (.aload_n 0, 1) := by decide +kernel
theorem own_h575 : decode method_4_code 433 = .ok (.iconst 5, 1) := by decide +kernel
theorem own_h576 : decode method_4_code 434 = .ok (.caload, 1) := by decide +kernel
theorem own_h577 : decode method_4_code 435 = .ok (.castore, 1) := by decide +kernel
theorem own_h578 : decode method_4_code 436 = .ok (.dup, 1) := by decide +kernel
theorem own_h579 : decode method_4_code 437 = .ok (.iconst 4, 1) := by decide +kernel
theorem own_h580 : decode method_4_code 438 = .ok (.aload_n 0, 1) := by decide +kernel
theorem own_h581 : decode method_4_code 439 = .ok (.bipush 6, 2) := by decide +kernel
theorem own_h582 : decode method_4_code 441 = .ok (.caload, 1) := by decide +kernel
theorem own_h583 : decode method_4_code 442 = .ok (.castore, 1) := by decide +kernel
theorem own_h584 : decode method_4_code 443 = .ok (.dup, 1) := by decide +kernel
theorem own_h585 : decode method_4_code 444 = .ok (.iconst 5, 1) := by decide +kernel
theorem own_h586 : decode method_4_code 445 = .ok (.aload_n 0, 1) := by decide +kernel
theorem own_h587 : decode method_4_code 446 = .ok (.bipush 7, 2) := by decide +kernel
theorem own_h588 : decode method_4_code 448 = .ok (.caload, 1) := by decide +kernel
theorem own_h589 : decode method_4_code 449 = .ok (.castore, 1) := by decide +kernel
theorem own_h590 : decode method_4_code 450 = .ok (.dup, 1) := by decide +kernel
theorem own_h591 : decode method_4_code 451 = .ok (.bipush 6, 2) := by decide +kernel
theorem own_h592 : decode method_4_code 453 = .ok (.aload_n 0, 1) := by decide +kernel
theorem own_h593 : decode method_4_code 454 = .ok (.bipush 8, 2) := by decide +kernel
theorem own_h594 : decode method_4_code 456 = .ok (.caload, 1) := by decide +kernel
theorem own_h595 : decode method_4_code 457 = .ok (.castore, 1) := by decide +kernel
theorem own_h596 : decode method_4_code 458 = .ok (.dup, 1) := by decide +kernel
theorem own_h597 : decode method_4_code 459 = .ok (.bipush 7, 2) := by decide +kernel
theorem own_h598 : decode method_4_code 461 = .ok (.aload_n 0, 1) := by decide +kernel
theorem own_h599 : decode method_4_code 462 = .ok (.bipush 9, 2) := by decide +kernel
theorem own_h600 : decode method_4_code 464 = .ok (.caload, 1) := by decide +kernel
theorem own_h601 : decode method_4_code 465 = .ok (.castore, 1) := by decide +kernel
theorem own_h602 : decode method_4_code 466 = .ok (.dup, 1) := by decide +kernel
theorem own_h603 : decode method_4_code 467 = .ok (.bipush 8, 2) := by decide +kernel
theorem own_h604 : decode method_4_code 469 = .ok (.aload_n 0, 1) := by decide +kernel
theorem own_h605 : decode method_4_code 470 = .ok (.bipush 10, 2) := by decide +kernel
theorem own_h606 : decode method_4_code 472 = .ok (.caload, 1) := by decide +kernel
theorem own_h607 : decode method_4_code 473 = .ok (.castore, 1) := by decide +kernel
theorem own_h608 : decode method_4_code 474 = .ok (.invokespecial 57, 3) := by decide +kernel
theorem own_h609 : decode method_4_code 477 = .ok (.areturn, 1) := by decide +kernel
theorem own_h610 : decode method_4_code 478 = .ok (.iload_n 1, 1) := by decide +kernel
theorem own_h611 : decode method_4_code 479 = .ok (.bipush 10, 2) := by decide +kernel
theorem own_h612 : decode method_4_code 481 = .ok (.if_icmp .ne 84, 3) := by decide +kernel
theorem own_h613 : decode method_4_code 484 = .ok (.new 55, 3) := by decide +kernel
theorem own_h614 : decode method_4_code 487 = .ok (.dup, 1) := by decide +kernel
theorem own_h615 : decode method_4_code 488 = .ok (.bipush 10, 2) := by decide +kernel
theorem own_h616 : decode method_4_code 490 = .ok (.newarray .char, 2) := by decide +kernel
theorem own_h617 : decode method_4_code 492 = .ok (.dup, 1) := by decide +kernel
theorem own_h618 : decode method_4_code 493 = .ok (.iconst 0, 1) := by decide +kernel
theorem own_h619 : decode method_4_code 494 = .ok (.aload_n 0, 1) := by decide +kernel
theorem own_h620 : decode method_4_code 495 = .ok (.iconst 1, 1) := by decide +kernel
theorem own_h621 : decode method_4_code 496 = .ok (.caload, 1) := by decide +kernel
theorem own_h622 : decode method_4_code 497 = .ok (.castore, 1) := by decide +kernel
theorem own_h623 : decode method_4_code 498 = .ok (.dup, 1) := by decide +kernel
theorem own_h624 : decode method_4_code 499 = .ok (.iconst 1, 1) := by decide +kernel
theorem own_h625 : decode method_4_code 500 = .ok (.aload_n 0, 1) := by decide +kernel
theorem own_h626 : decode method_4_code 501 = .ok (.iconst 2, 1) := by decide +kernel
theorem own_h627 : decode method_4_code 502 = .ok (.caload, 1) := by decide +kernel
theorem own_h628 : decode method_4_code 503 = .ok (.castore, 1) := by decide +kernel
theorem own_h629 : decode method_4_code 504 = .ok (.dup, 1) := by decide +kernel
theorem own_h630 : decode method_4_code 505 = .ok (.iconst 2, 1) := by decide +kernel
theorem own_h631 : decode method_4_code 506 = .ok (.aload_n 0, 1) := by decide +kernel
theorem own_h632 : decode method_4_code 507 = .ok (.iconst 3, 1) := by decide +kernel
theorem own_h633 : decode method_4_code 508 = .ok (.caload, 1) := by decide +kernel
theorem own_h634 : decode method_4_code 509 = .ok (.castore, 1) := by decide +kernel
theorem own_h635 : decode method_4_code 510 = .ok (.dup, 1) := by decide +kernel
theorem own_h636 : decode method_4_code 511 = .ok (.iconst 3, 1) := by decide +kernel
theorem own_h637 : decode method_4_code 512 = .ok (.aload_n 0, 1) := by decide +kernel
theorem own_h638 : decode method_4_code 513 = .ok (.iconst 4, 1) := by decide +kernel
theorem own_h639 : decode method_4_code 514 = .ok (.caload, 1) := by decide +kernel
theorem own_h640 : decode method_4_code 515 = .ok (.castore, 1) := by decide +kernel
theorem own_h641 : decode method_4_code 516 = .ok (.dup, 1) := by decide +kernel
theorem own_h642 : decode method_4_code 517 = .ok (.iconst 4, 1) := by decide +kernel
theorem own_h643 : decode method_4_code 518 = .ok (.aload_n 0, 1) := by decide +kernel
theorem own_h644 : decode method_4_code 519 = .ok (.iconst 5, 1) := by decide +kernel
theorem own_h645 : decode method_4_code 520 = .ok (.caload, 1) := by decide +kernel
theorem own_h646 : decode method_4_code 521 = .ok (.castore, 1) := by decide +kernel
theorem own_h647 : decode method_4_code 522 = .ok (.dup, 1) := by decide +kernel
theorem own_h648 : decode method_4_code 523 = .ok (.iconst 5, 1) := by decide +kernel
theorem own_h649 : decode method_4_code 524 = .ok (.aload_n 0, 1) := by decide +kernel
theorem own_h650 : decode method_4_code 525 = .ok (.bipush 6, 2) := by decide +kernel
theorem own_h651 : decode method_4_code 527 = .ok (.caload, 1) := by decide +kernel
theorem own_h652 : decode method_4_code 528 = .ok (.castore, 1) := by decide +kernel
theorem own_h653 : decode method_4_code 529 = .ok (.dup, 1) := by decide +kernel
theorem own_h654 : decode method_4_code 530 = .ok (.bipush 6, 2) := by decide +kernel
theorem own_h655 : decode method_4_code 532 = .ok (.aload_n 0, 1) := by decide +kernel
theorem own_h656 : decode method_4_code 533 = .ok (.bipush 7, 2) := by decide +kernel
theorem own_h657 : decode method_4_code 535 = .ok (.caload, 1) := by decide +kernel
theorem own_h658 : decode method_4_code 536 = .ok (.castore, 1) := by decide +kernel
theorem own_h659 : decode method_4_code 537 = .ok (.dup, 1) := by decide +kernel
theorem own_h660 : decode method_4_code 538 = .ok (.bipush 7, 2) := by decide +kernel
theorem own_h661 : decode method_4_code 540 = .ok (.aload_n 0, 1) := by decide +kernel
theorem own_h662 : decode method_4_code 541 = .ok (.bipush 8, 2) := by decide +kernel
theorem own_h663 : decode method_4_code 543 = .ok (.caload, 1) := by decide +kernel
theorem own_h664 : decode method_4_code 544 = .ok (.castore, 1) := by decide +kernel
theorem own_h665 : decode method_4_code 545 = .ok (.dup, 1) := by decide +kernel
theorem own_h666 : decode method_4_code 546 = .ok (.bipush 8, 2) := by decide +kernel
theorem own_h667 : decode method_4_code 548 = .ok (.aload_n 0, 1) := by decide +kernel
theorem own_h668 : decode method_4_code 549 = .ok (.bipush 9, 2) := by decide +kernel
theorem own_h669 : decode method_4_code 551 = .ok (.caload, 1) := by decide +kernel
theorem own_h670 : decode method_4_code 552 = .ok (.castore, 1) := by decide +kernel
theorem own_h671 : decode method_4_code 553 = .ok (.dup, 1) := by decide +kernel
theorem own_h672 : decode method_4_code 554 = .ok (.bipush 9, 2) := by decide +kernel
theorem own_h673 : decode method_4_code 556 = .ok (.aload_n 0, 1) := by decide +kernel
theorem own_h674 : decode method_4_code 557 = .ok (.bipush 10, 2) := by decide +kernel
theorem own_h675 : decode method_4_code 559 = .ok (.caload, 1) := by decide +kernel
theorem own_h676 : decode method_4_code 560 = .ok (.castore, 1) := by decide +kernel
theorem own_h677 : decode method_4_code 561 = .ok (.invokespecial 57, 3) := by decide +kernel
theorem own_h678 : decode method_4_code 564 = .ok (.areturn, 1) := by decide +kernel
theorem own_h679 : decode method_4_code 565 = .ok (.new 55, 3) := by decide +kernel
theorem own_h680 : decode method_4_code 568 = .ok (.dup, 1) := by decide +kernel
theorem own_h681 : decode method_4_code 569 = .ok (.bipush 11, 2) := by decide +kernel
theorem own_h682 : decode method_4_code 571 = .ok (.newarray .char, 2) := by decide +kernel
theorem own_h683 : decode method_4_code 573 = .ok (.dup, 1) := by decide +kernel
theorem own_h684 : decode method_4_code 574 = .ok (.iconst 0, 1) := by decide +kernel
theorem own_h685 : decode method_4_code 575 = .ok (.aload_n 0, 1) := by decide +kernel
theorem own_h686 : decode method_4_code 576 = .ok (.iconst 0, 1) := by decide +kernel
theorem own_h687 : decode method_4_code 577 = .ok (.caload, 1) := by decide +kernel
theorem own_h688 : decode method_4_code 578 = .ok (.castore, 1) := by decide +kernel
theorem own_h689 : decode method_4_code 579 = .ok (.dup, 1) := by decide +kernel
theorem own_h690 : decode method_4_code 580 = .ok (.iconst 1, 1) := by decide +kernel
theorem own_h691 : decode method_4_code 581 = .ok (.aload_n 0, 1) := by decide +kernel
theorem own_h692 : decode method_4_code 582 = .ok (.iconst 1, 1) := by decide +kernel
theorem own_h693 : decode method_4_code 583 = .ok (.caload, 1) := by decide +kernel
theorem own_h694 : decode method_4_code 584 = .ok (.castore, 1) := by decide +kernel
theorem own_h695 : decode method_4_code 585 = .ok (.dup, 1) := by decide +kernel
theorem own_h696 : decode method_4_code 586 = .ok (.iconst 2, 1) := by decide +kernel
theorem own_h697 : decode method_4_code 587 = .ok (.aload_n 0, 1) := by decide +kernel
theorem own_h698 : decode method_4_code 588 = .ok (.iconst 2, 1) := by decide +kernel
theorem own_h699 : decode method_4_code 589 = .ok (.caload, 1) := by decide +kernel
theorem own_h700 : decode method_4_code 590 = .ok (.castore, 1) := by decide +kernel
theorem own_h701 : decode method_4_code 591 = .ok (.dup, 1) := by decide +kernel
theorem own_h702 : decode method_4_code 592 = .ok (.iconst 3, 1) := by decide +kernel
theorem own_h703 : decode method_4_code 593 = .ok (.aload_n 0, 1) := by decide +kernel
theorem own_h704 : decode method_4_code 594 = .ok (.iconst 3, 1) := by decide +kernel
theorem own_h705 : decode method_4_code 595 = .ok (.caload, 1) := by decide +kernel
theorem own_h706 : decode method_4_code 596 = .ok (.castore, 1) := by decide +kernel
theorem own_h707 : decode method_4_code 597 = .ok (.dup, 1) := by decide +kernel
theorem own_h708 : decode method_4_code 598 = .ok (.iconst 4, 1) := by decide +kernel
theorem own_h709 : decode method_4_code 599 = .ok (.aload_n 0, 1) := by decide +kernel
theorem own_h710 : decode method_4_code 600 = .ok (.iconst 4, 1) := by decide +kernel
theorem own_h711 : decode method_4_code 601 = .ok (.caload, 1) := by decide +kernel
theorem own_h712 : decode method_4_code 602 = .ok (.castore, 1) := by decide +kernel
theorem own_h713 : decode method_4_code 603 = .ok (.dup, 1) := by decide +kernel
theorem own_h714 : decode method_4_code 604 = .ok (.iconst 5, 1) := by decide +kernel
theorem own_h715 : decode method_4_code 605 = .ok (.aload_n 0, 1) := by decide +kernel
theorem own_h716 : decode method_4_code 606 = .ok (.iconst 5, 1) := by decide +kernel
theorem own_h717 : decode method_4_code 607 = .ok (.caload, 1) := by decide +kernel
theorem own_h718 : decode method_4_code 608 = .ok (.castore, 1) := by decide +kernel
theorem own_h719 : decode method_4_code 609 = .ok (.dup, 1) := by decide +kernel
theorem own_h720 : decode method_4_code 610 = .ok (.bipush 6, 2) := by decide +kernel
theorem own_h721 : decode method_4_code 612 = .ok (.aload_n 0, 1) := by decide +kernel
theorem own_h722 : decode method_4_code 613 = .ok (.bipush 6, 2) := by decide +kernel
theorem own_h723 : decode method_4_code 615 = .ok (.caload, 1) := by decide +kernel
theorem own_h724 : decode method_4_code 616 = .ok (.castore, 1) := by decide +kernel
theorem own_h725 : decode method_4_code 617 = .ok (.dup, 1) := by decide +kernel
theorem own_h726 : decode method_4_code 618 = .ok (.bipush 7, 2) := by decide +kernel
theorem own_h727 : decode method_4_code 620 = .ok (.aload_n 0, 1) := by decide +kernel
theorem own_h728 : decode method_4_code 621 = .ok (.bipush 7, 2) := by decide +kernel
theorem own_h729 : decode method_4_code 623 = .ok (.caload, 1) := by decide +kernel
theorem own_h730 : decode method_4_code 624 = .ok (.castore, 1) := by decide +kernel
theorem own_h731 : decode method_4_code 625 = .ok (.dup, 1) := by decide +kernel
theorem own_h732 : decode method_4_code 626 = .ok (.bipush 8, 2) := by decide +kernel
theorem own_h733 : decode method_4_code 628 = .ok (.aload_n 0, 1) := by decide +kernel
theorem own_h734 : decode method_4_code 629 = .ok (.bipush 8, 2) := by decide +kernel
theorem own_h735 : decode method_4_code 631 = .ok (.caload, 1) := by decide +kernel
theorem own_h736 : decode method_4_code 632 = .ok (.castore, 1) := by decide +kernel
theorem own_h737 : decode method_4_code 633 = .ok (.dup, 1) := by decide +kernel
theorem own_h738 : decode method_4_code 634 = .ok (.bipush 9, 2) := by decide +kernel
theorem own_h739 : decode method_4_code 636 = .ok (.aload_n 0, 1) := by decide +kernel
theorem own_h740 : decode method_4_code 637 = .ok (.bipush 9, 2) := by decide +kernel
theorem own_h741 : decode method_4_code 639 = .ok (.caload, 1) := by decide +kernel
theorem own_h742 : decode method_4_code 640 = .ok (.castore, 1) := by decide +kernel
theorem own_h743 : decode method_4_code 641 = .ok (.dup, 1) := by decide +kernel
theorem own_h744 : decode method_4_code 642 = .ok (.bipush 10, 2) := by decide +kernel
theorem own_h745 : decode method_4_code 644 = .ok (.aload_n 0, 1) := by decide +kernel
theorem own_h746 : decode method_4_code 645 = .ok (.bipush 10, 2) := by decide +kernel
theorem own_h747 : decode method_4_code 647 = .ok (.caload, 1) := by decide +kernel
theorem own_h748 : decode method_4_code 648 = .ok (.castore, 1) := by decide +kernel
theorem own_h749 : decode method_4_code 649 = .ok (.invokespecial 57, 3) := by decide +kernel
theorem own_h750 : decode method_4_code 652 = .ok (.areturn, 1) := by decide +kernel
theorem rmMk (l : Launch) (Z : State) (a0 : Array Value) (hw : ∀ d ∈ tables_1, d.before a0 Z = true) (ws : List Jvm.Cond) (b : Addr) (kb : ClassId) (nv b0 b1 b2 b3 b4 b5 b6 b7 b8 b9 b10 : Int32) (h0 : Heap) (n0 : Nat) (Z0 : n0 ≤ h0.size) (Fb : Arv Z h0 b kb .char (11 : Int32) [.int b0, .int b1, .int b2, .int b3, .int b4, .int b5, .int b6, .int b7, .int b8, .int b9, .int b10] (.int 0)) (hbc : own_chs [b0, b1, b2, b3, b4, b5, b6, b7, b8, b9, b10]) (hn : 0 ≤ nv.toInt ∧ nv.toInt ≤ 11) (O0 : Old Z n0 h0) (sA : Sta Z Z.heap "java/lang/StringUTF16" "$assertionsDisabled" "Z" (.int (1 : Int32))) (sH : Sta Z Z.heap "java/lang/StringUTF16" "HI_BYTE_SHIFT" "I" (.int (0 : Int32))) (sL : Sta Z Z.heap "java/lang/StringUTF16" "LO_BYTE_SHIFT" "I" (.int (8 : Int32))) (ci : Int32) (sC : Sta Z Z.heap "java/lang/String" "COMPACT_STRINGS" "Z" (.int ci)) (hc : ¬ ci = 0) :
    MetFree l (⟨"com/example/commitlog/commitlog/ConsumeQueuesQueueIdOfPinLaw", "make", "([CI)Ljava/lang/String;"⟩ : MethodName) (head1 (Jvm.Cond.code (⟨"com/example/commitlog/commitlog/ConsumeQueuesQueueIdOfPinLaw", "make", "([CI)Ljava/lang/String;"⟩ : MethodName) method_4_code 2 (some (.object "java/lang/String")) :: ws) (rO 7 6 48 124)) (fun ar_ U => ar_ = #[(.ref b), (.int nv)] ∧ Z.Warmed39 U.vm ∧ U.heap = h0 ∧ CHv Z own_EL U.vm h0) (fun _ _ _ _ _ => True) (fun _ U o U' => ∃ v L, o = .returned v ∧ Q_mk Z nv b0 b1 b2 b3 b4 b5 b6 b7 b8 b9 b10 h0 n0 v U'.heap L ∧ CHr Z own_EL U.vm U.heap U'.vm U'.heap ∧ ReturnedEndW U o U' L (rO 7 6 48 124).cells (rO 7 6 48 124).slots) := by
 refine MetFree.of_bodySF (plainFor_of_name own_h249) hisR ?_
 intro p e s m args below meth c s₁ Bd hml0 hP hK
 obtain ⟨rfl, hZ, hh, hCH⟩ := hP
 have hx := Bd.exec
 have hby := Bd.bytes
 have hml : c.maxLocals = 2 := hml0
 have hown : s.vm.findClass "com/example/commitlog/commitlog/ConsumeQueuesQueueIdOfPinLaw" = some m.cls := findClass_of_methodNamed Bd.named
 have hnm := (name_of_methodNamed Bd.named Bd.method).1
 have X0 : Stand p l e (rO 7 6 48 124) (s.setVm s.vm) m #[(.ref b), (.int nv)] below meth c s₁ [] 0 0 := Stand.of_body Bd
 have hS0 : s.Since s.vm 0 := (State.WarmedH.refl s).since 0
 have hk0 : 0 ≤ h0.size := Nat.zero_le _
 have hZ : Z.Warmed39 (s.setVm s.vm).vm := hZ
 have hown : (s.setVm s.vm).vm.findClass "com/example/commitlog/commitlog/ConsumeQueuesQueueIdOfPinLaw" = some m.cls := hown
 have Cr0 : CHr Z own_EL s.vm h0 s.vm h0 := CHr.refl hCH
 have e0 : s₁.heap = h0 := by rw [← hh, Bd.state]; rfl
 have N0 := Fr.nil n0
 obtain ⟨B_, hB_⟩ : ∃ z, z = s₁.setTop (entryFrame m #[(.ref b), (.int nv)] 2) := ⟨_, rfl⟩
 have k0 : own_K p e below (s₁.setTop (mkF m 0 #[.val (.ref b), .val (.int nv)] [])) B_ := by rw [hB_]; exact fun t k => castTop (by clear k; first | (simp [entryFrame, mkF, argsToLocals, Value.category, maxLocals]; done) | rfl) k
 have K0 : Keep h0 h0 [] := Keep.refl _ _
 have e0_ : nar .char b0 = b0 := own_nar16 (hbc b0 (by simp)).1 (hbc b0 (by simp)).2
 have e1_ : nar .char b1 = b1 := own_nar16 (hbc b1 (by simp)).1 (hbc b1 (by simp)).2
 have e2_ : nar .char b2 = b2 := own_nar16 (hbc b2 (by simp)).1 (hbc b2 (by simp)).2
 have e3_ : nar .char b3 = b3 := own_nar16 (hbc b3 (by simp)).1 (hbc b3 (by simp)).2
 have e4_ : nar .char b4 = b4 := own_nar16 (hbc b4 (by simp)).1 (hbc b4 (by simp)).2
 have e5_ : nar .char b5 = b5 := own_nar16 (hbc b5 (by simp)).1 (hbc b5 (by simp)).2
 have e6_ : nar .char b6 = b6 := own_nar16 (hbc b6 (by simp)).1 (hbc b6 (by simp)).2
 have e7_ : nar .char b7 = b7 := own_nar16 (hbc b7 (by simp)).1 (hbc b7 (by simp)).2
 have e8_ : nar .char b8 = b8 := own_nar16 (hbc b8 (by simp)).1 (hbc b8 (by simp)).2
 have e9_ : nar .char b9 = b9 := own_nar16 (hbc b9 (by simp)).1 (hbc b9 (by simp)).2
 have e10_ : nar .char b10 = b10 := own_nar16 (hbc b10 (by simp)).1 (hbc b10 (by simp)).2
 have k1 : own_J p e below s₁ m 1 #[.val (.ref b), .val (.int nv)] [(.int nv)] B_ := fun t_ hh => k0 t_ (by
  refine XS.iloadN X0.here hx rfl (hb hby own_h250) rfl ?_
  exact hh)
 by_cases c1 : nv = 0
 ·
  have k2 : own_J p e below s₁ m 4 #[.val (.ref b), .val (.int nv)] [] B_ := fun t_ hh => k1 t_ (by
   refine XS.ifNo X0.here hx rfl (hb hby own_h251) rfl (own_ifF_ne c1) ?_
   exact hh)
  clear k1
  obtain ⟨T21, h22, X23, e24, E25, A26, D27, U29, st28⟩ := newO X0 hx hZ hown (wT hw 23 rfl) (wT hw 24 rfl) (wT hw 25 rfl) e0 (g := (mkF m 4 #[.val (.ref b), .val (.int nv)] [])) rfl (hb hby own_h252) (by decide) (by decide)
  obtain ⟨a30, g31⟩ : ∃ z, z = h0.size := ⟨_, rfl⟩
  rw [← g31] at A26 D27 U29 st28
  have H032 : h0.size ≤ a30 := Nat.le_trans K0.1 (Nat.le_of_eq g31.symm)
  have G33 : n0 ≤ a30 := Nat.le_trans Z0 (Nat.le_of_eq g31.symm)
  have hk34 := Nat.le_trans hk0 E25.1
  have Sf35 := Safe.ext E25 Cr0.1 (Safe.new (x := a30) (Nat.le_of_eq g31.symm))
  have F36 := Fb.ext E25
  have Z37 : n0 ≤ h22.size := Nat.le_trans Z0 E25.1
  have O38 := O0.ext E25
  have P39 : Keep h0 h22 [] := K0.ext E25
  have Cr40 := Cr0.trans (CHr.ext E25 Cr0.1)
  have F41 : Fld Z h22 a30 "java/lang/String" "coder" "B" (.int (0 : Int32)) := D27 (Or.inr (wT hw 49 rfl)) (ty := .byte) (by decide)
  have F42 : Fld Z h22 a30 "java/lang/String" "value" "[B" .null := D27 (Or.inr (wT hw 51 rfl)) (ty := .array .byte) (by decide)
  have k3 : own_J p e below T21 m 7 #[.val (.ref b), .val (.int nv)] [(.ref a30)] B_ := fun t_ hh => k2 t_ (st28 t_ hh)
  clear k2 st28
  have k4 : own_J p e below T21 m 9 #[.val (.ref b), .val (.int nv)] [(.int (0 : Int32)), (.ref a30), (.ref a30)] B_ := fun t_ hh => k3 t_ (by
   refine XS.dup X23.here hx rfl (hb hby own_h253) rfl rfl ?_
   refine XS.iconst X23.here hx rfl (hb hby own_h254) ?_
   exact hh)
  clear k3
  obtain ⟨T43, h44, kA45, X46, e47, E48, A49, st51⟩ := newP X23 hx hZ (wT hw 15 rfl) e24 (g := (mkF m 9 #[.val (.ref b), .val (.int nv)] [(.int (0 : Int32)), (.ref a30), (.ref a30)])) rfl (hb hby own_h255) rfl (by decide) (cap := 0) (by decide) (by decide) (by decide) (by decide)
  obtain ⟨a52, g53⟩ : ∃ z, z = h22.size := ⟨_, rfl⟩
  rw [← g53] at A49 st51
  have H054 : h0.size ≤ a52 := Nat.le_trans P39.1 (Nat.le_of_eq g53.symm)
  have G55 : n0 ≤ a52 := Nat.le_trans Z37 (Nat.le_of_eq g53.symm)
  have hk56 := Nat.le_trans hk34 E48.1
  have Sf57 := Safe.ext E48 Cr40.1 (Safe.new (x := a52) (Nat.le_of_eq g53.symm))
  have F58 := F36.ext E48
  have F59 := Exa.ext (h' := h44) E48 A26
  have F60 := Fld.ext (h' := h44) E48 F41
  have F61 := Fld.ext (h' := h44) E48 F42
  have Z62 : n0 ≤ h44.size := Nat.le_trans Z37 E48.1
  have O63 := O38.ext E48
  have P64 : Keep h0 h44 [] := P39.ext E48
  have Sf65 := Safe.ext E48 Cr40.1 Sf35
  have Cr66 := Cr40.trans (CHr.ext E48 Cr40.1)
  have V67 : Arv Z h44 a52 kA45 .char (0 : Int32) [] (.int (0 : Int32)) := Arv.pad (Arv.new A49 (by decide)) (pad_rep [] (.int (0 : Int32)) 0)
  have k5 : own_J p e below T43 m 11 #[.val (.ref b), .val (.int nv)] [(.ref a52), (.ref a30), (.ref a30)] B_ := fun t_ hh => k4 t_ (st51 t_ hh)
  clear k4 st51 X23 e24
  have ne79 : a30 ≠ a52 := by rw [g53]; exact Nat.ne_of_lt A26.lt
  obtain ⟨_, _, ⟨T68, L69, k_70, n_71⟩, -, X72, hSc80, hgr81, ⟨Lc73, hQ74, l_75, y_76, z_77, C82⟩, st78⟩ := X46.specialBackS hx (y := (⟨"java/lang/String", "<init>", "([C)V"⟩ : MethodName)) rfl hown (mvT hZ (wT hw 26 rfl)) (mvT hZ (wT hw 27 rfl)) (mvT hZ (wT hw 28 rfl)) (by decide) (backOfSH (W := 1) (rmS0 l Z a0 hw [] a30 a52 kA45 h44 n0 Z62 F59 F61 F60 G33 V67 (Ne.symm ne79) ) hZ (wT hw 28 rfl) (wT hw 25 rfl) (by decide) (by decide) (own_EW hw) Cr66.1) (g := (mkF m 11 #[.val (.ref b), .val (.int nv)] [(.ref a52), (.ref a30), (.ref a30)])) rfl (by rw [hml]; rfl) (Steps.refl _) (a := a30) (argsL := [(.ref a52)]) (rest := [(.ref a30)]) (lenOf own_h257 rfl) rfl (by show 2 * 0 + _ ≤ _; exact Nat.le_of_eq rfl) (hb hby own_h256) (fun _ _ => ⟨rfl, e47, own_l rfl, own_l rfl⟩)
  dsimp only [Pt.U, Pt.locs, Pt.cells, Pt.slots] at X72 hSc80 hgr81 l_75 y_76 z_77 st78 hQ74 C82
  replace l_75 := l_75.symm
  subst l_75 y_76 z_77
  obtain ⟨X83, hS84, hZ85, hown86⟩ := rebS hS0 (by rw [e47]; exact hk56) X72 hSc80 hgr81 hZ hown
  have Sf87 := C82.safe F59.lt Sf65
  have Sf88 := C82.safe V67.lt Sf57
  have Cr89 := Cr66.trans C82
  obtain ⟨t91, kt92, rfl, N90, K97, F93, F94, F95, F96, -⟩ := hQ74
  have N98 := Fr.app N0 N90
  have ne100 : b ≠ a30 := by rw [g31]; exact Nat.ne_of_lt Fb.lt
  have F99 := F58.keep K97 (ninS ne100 nin0)
  have F101 := F59.keep K97
  have F102 := V67.keep K97 (ninS (Ne.symm ne79) nin0)
  have Z103 : n0 ≤ T68.heap.size := Nat.le_trans Z62 K97.1
  have hk104 := Nat.le_trans hk56 K97.1
  have O105 := O63.keep K97 (allS G33 all0)
  have P106 : Keep h0 T68.heap [] := P64.trans K97 (allS (P := fun x => x ∈ [] ∨ h0.size ≤ x) (Or.inr H032) all0)
  have e107 : T68.heap = T68.heap := rfl
  have k6 : own_J p e below T68 m 14 #[.val (.ref b), .val (.int nv)] [(.ref a30)] B_ := fun t_ hh => k5 t_ (st78.trans hh)
  clear k5 st78 X46 e47
  obtain ⟨fs, hr, hrun, hended, hEnd⟩ := X83.leaveW hS84 (by rw [e107]; exact (Nat.le_refl T68.heap.size)) (v := some (.ref a30)) (fun h => by rw [Bd.returns] at h; cases h)
  refine ⟨_, _, (own_from hB_ (k6 _ (retOut X83 hx (t := .object "java/lang/String") Bd.returns rfl (Or.inr (Or.inr (Or.inr (Or.inr ⟨rfl, rfl, rfl⟩)))) (hb hby own_h258) hr))), hrun, hended, _, _, rfl, ?_, ?_, hEnd.1, hEnd.2.1, hEnd.2.2.1, hEnd.2.2.2.mono (own_l rfl) (own_l rfl)⟩
  rotate_left
  · show CHr Z own_EL s.vm s.heap T68.vm T68.heap
    rw [hh, e107]
    exact Cr89.trans (CHv.at X83 hZ85 (own_EW hw) Cr89.1)
  show Q_mk Z nv b0 b1 b2 b3 b4 b5 b6 b7 b8 b9 b10 h0 n0 _ T68.heap _
  rw [e107]
  exact ⟨a30, rfl, N98, P106, G33, F93, by rw [c1]; exact (Or.inl ⟨t91, kt92, ⟨F93, F94, F95, F96⟩, fun _ q => nomatch q⟩)⟩
 ·
  have k7 : own_J p e below s₁ m 17 #[.val (.ref b), .val (.int nv)] [(.int (1 : Int32)), (.int nv)] B_ := fun t_ hh => k1 t_ (by
   refine XS.ifYes X0.here hx rfl (pc0 := 1) (pc' := 15) rfl (hb hby own_h251) rfl (own_ifT_ne c1) (by decide) (by decide) ?_
   refine XS.iloadN X0.here hx rfl (hb hby own_h259) rfl ?_
   refine XS.iconst X0.here hx rfl (hb hby own_h260) ?_
   exact hh)
  clear k1
  by_cases c17 : nv = (1 : Int32)
  ·
   have k8 : own_J p e below s₁ m 20 #[.val (.ref b), .val (.int nv)] [] B_ := fun t_ hh => k7 t_ (by
    refine XS.icmpNo X0.here hx rfl (hb hby own_h261) rfl (own_icF_ne c17) ?_
    exact hh)
   clear k7
   obtain ⟨T108, h109, X110, e111, E112, A113, D114, U116, st115⟩ := newO X0 hx hZ hown (wT hw 23 rfl) (wT hw 24 rfl) (wT hw 25 rfl) e0 (g := (mkF m 20 #[.val (.ref b), .val (.int nv)] [])) rfl (hb hby own_h262) (by decide) (by decide)
   obtain ⟨a117, g118⟩ : ∃ z, z = h0.size := ⟨_, rfl⟩
   rw [← g118] at A113 D114 U116 st115
   have H0119 : h0.size ≤ a117 := Nat.le_trans K0.1 (Nat.le_of_eq g118.symm)
   have G120 : n0 ≤ a117 := Nat.le_trans Z0 (Nat.le_of_eq g118.symm)
   have hk121 := Nat.le_trans hk0 E112.1
   have Sf122 := Safe.ext E112 Cr0.1 (Safe.new (x := a117) (Nat.le_of_eq g118.symm))
   have F123 := Fb.ext E112
   have Z124 : n0 ≤ h109.size := Nat.le_trans Z0 E112.1
   have O125 := O0.ext E112
   have P126 : Keep h0 h109 [] := K0.ext E112
   have Cr127 := Cr0.trans (CHr.ext E112 Cr0.1)
   have F128 : Fld Z h109 a117 "java/lang/String" "coder" "B" (.int (0 : Int32)) := D114 (Or.inr (wT hw 49 rfl)) (ty := .byte) (by decide)
   have F129 : Fld Z h109 a117 "java/lang/String" "value" "[B" .null := D114 (Or.inr (wT hw 51 rfl)) (ty := .array .byte) (by decide)
   have k9 : own_J p e below T108 m 23 #[.val (.ref b), .val (.int nv)] [(.ref a117)] B_ := fun t_ hh => k8 t_ (st115 t_ hh)
   clear k8 st115
   have k10 : own_J p e below T108 m 25 #[.val (.ref b), .val (.int nv)] [(.int (1 : Int32)), (.ref a117), (.ref a117)] B_ := fun t_ hh => k9 t_ (by
    refine XS.dup X110.here hx rfl (hb hby own_h263) rfl rfl ?_
    refine XS.iconst X110.here hx rfl (hb hby own_h264) ?_
    exact hh)
   clear k9
   obtain ⟨T130, h131, kA132, X133, e134, E135, A136, st138⟩ := newP X110 hx hZ (wT hw 15 rfl) e111 (g := (mkF m 25 #[.val (.ref b), .val (.int nv)] [(.int (1 : Int32)), (.ref a117), (.ref a117)])) rfl (hb hby own_h265) rfl (by decide) (cap := 1) (by decide) (by decide) (by decide) (by decide)
   obtain ⟨a139, g140⟩ : ∃ z, z = h109.size := ⟨_, rfl⟩
   rw [← g140] at A136 st138
   have H0141 : h0.size ≤ a139 := Nat.le_trans P126.1 (Nat.le_of_eq g140.symm)
   have G142 : n0 ≤ a139 := Nat.le_trans Z124 (Nat.le_of_eq g140.symm)
   have hk143 := Nat.le_trans hk121 E135.1
   have Sf144 := Safe.ext E135 Cr127.1 (Safe.new (x := a139) (Nat.le_of_eq g140.symm))
   have F145 := F123.ext E135
   have F146 := Exa.ext (h' := h131) E135 A113
   have F147 := Fld.ext (h' := h131) E135 F128
   have F148 := Fld.ext (h' := h131) E135 F129
   have Z149 : n0 ≤ h131.size := Nat.le_trans Z124 E135.1
   have O150 := O125.ext E135
   have P151 : Keep h0 h131 [] := P126.ext E135
   have Sf152 := Safe.ext E135 Cr127.1 Sf122
   have Cr153 := Cr127.trans (CHr.ext E135 Cr127.1)
   have V154 : Arv Z h131 a139 kA132 .char (1 : Int32) [(.int (0 : Int32))] (.int (0 : Int32)) := Arv.pad (Arv.new A136 (by decide)) (pad_rep [] (.int (0 : Int32)) 1)
   have k11 : own_J p e below T130 m 27 #[.val (.ref b), .val (.int nv)] [(.ref a139), (.ref a117), (.ref a117)] B_ := fun t_ hh => k10 t_ (st138 t_ hh)
   clear k10 st138 X110 e111
   have k12 : own_J p e below T130 m 33 #[.val (.ref b), .val (.int nv)] [(.int b10), (.int (0 : Int32)), (.ref a139), (.ref a139), (.ref a117), (.ref a117)] B_ := fun t_ hh => k11 t_ (by
    refine XS.dup X133.here hx rfl (hb hby own_h266) rfl rfl ?_
    refine XS.iconst X133.here hx rfl (hb hby own_h267) ?_
    refine XS.aloadN X133.here hx rfl (hb hby own_h268) rfl rfl ?_
    refine XS.bipush X133.here hx rfl (hb hby own_h269) ?_
    refine own_caload X133 hx hZ e134 F145 (j := (10 : Int32)) (v := (.int b10)) (by decide) rfl (g := (mkF m 32 #[.val (.ref b), .val (.int nv)] [(.int (10 : Int32)), (.ref b), (.int (0 : Int32)), (.ref a139), (.ref a139), (.ref a117), (.ref a117)])) rfl rfl (hb hby own_h270) _ ?_
    exact hh)
   clear k11
   obtain ⟨cl155, Ar156, q157, S158, Ng159, H160, Gf161⟩ := id V154
   have hin162 := inb_of (j := (0 : Int32)) S158 (by decide)
   obtain ⟨T163, h164, X165, e166, W167, st168⟩ := stC X133 hx hZ e134 Ar156 (j := (0 : Int32)) hin162 (g := (mkF m 33 #[.val (.ref b), .val (.int nv)] [(.int b10), (.int (0 : Int32)), (.ref a139), (.ref a139), (.ref a117), (.ref a117)])) rfl rfl (hb hby own_h271)
   have N169 := Fr.snoc X165 N0 G142
   have K170 : Keep h131 h164 [a139] := Keep.of_wr W167
   have V171 := Arv.set Ar156 q157 S158 Ng159 H160 Gf161 (v := (.int (nar .char b10))) (fits_nar_char _) W167 0 rfl (own_lt rfl)
   have k13 : own_J p e below T163 m 34 #[.val (.ref b), .val (.int nv)] [(.ref a139), (.ref a117), (.ref a117)] B_ := fun t_ hh => k12 t_ (st168 t_ hh)
   clear k12 st168 X133 e134 cl155 Ar156 q157 S158 Ng159 H160 Gf161 hin162 W167 V154
   have V172 : Arv Z h164 a139 kA132 .char (1 : Int32) [(.int (nar .char b10))] (.int (0 : Int32)) := V171
   have ne174 : b ≠ a139 := by rw [g140]; exact Nat.ne_of_lt F123.lt
   have F173 := F145.keep K170 (ninS ne174 nin0)
   have F175 := F146.keep K170
   have ne177 : a117 ≠ a139 := by rw [g140]; exact Nat.ne_of_lt A113.lt
   have F176 := F147.keep K170 (ninS ne177 nin0)
   have F178 := F148.keep K170 (ninS ne177 nin0)
   have Z179 : n0 ≤ h164.size := Nat.le_trans Z149 K170.1
   have hk180 := Nat.le_trans hk143 K170.1
   have Sf181 := Safe.keep K170 (allS Sf144 all0) Cr153.1 Sf152
   have Sf182 := Safe.keep K170 (allS Sf144 all0) Cr153.1 Sf144
   have Cr183 := Cr153.trans (CHr.keep K170 (allS Sf144 all0) Cr153.1)
   have O184 := O150.keep K170 (allS G142 all0)
   have P185 : Keep h0 h164 [] := P151.trans K170 (allS (P := fun x => x ∈ [] ∨ h0.size ≤ x) (Or.inr H0141) all0)
   have F186 : Arv Z h164 a139 kA132 .char (Int32.ofNat 1) (([b10] : List Int32).map Value.int) (.int 0) := by have q := V172; simp only [e10_] at q; exact q
   have hcs187 : own_chs ([b10] : List Int32) := own_chs_drop (cs := [b0, b1, b2, b3, b4, b5, b6, b7, b8, b9, b10]) 10 hbc
   by_cases hA : ∀ c ∈ ([b10] : List Int32), ¬ (255 : Int32) < c
   ·
    obtain ⟨_, _, ⟨T188, L189, k_190, n_191⟩, -, X192, ⟨Lc193, hQ194, l_195, y_196, z_197⟩, st198⟩ := X165.specialBack hx (y := (⟨"java/lang/String", "<init>", "([C)V"⟩ : MethodName)) rfl hown (mvT hZ (wT hw 26 rfl)) (mvT hZ (wT hw 27 rfl)) (mvT hZ (wT hw 28 rfl)) (by decide) (StrChars.Road.backV (W := 1) hZ (fun d hd => hw d (own_sub_words d hd)) (kI := 4) (wT hw 24 rfl) (cs := ([b10] : List Int32)) (n0 := n0) G120 Z179 F175 F178 F176 F186 (Sta.ext O184.2 sC) hc rfl rfl (own_lt rfl) (own_l rfl) (own_b8s hcs187 hA) rfl (by decide) (by decide)) (g := (mkF m 34 #[.val (.ref b), .val (.int nv)] [(.ref a139), (.ref a117), (.ref a117)])) rfl (by rw [hml]; rfl) (Steps.refl _) (a := a117) (argsL := [(.ref a139)]) (rest := [(.ref a117)]) (lenOf own_h257 rfl) rfl (by show 2 * 0 + _ ≤ _; exact Nat.le_of_eq rfl) (hb hby own_h272) (fun _ _ => ⟨rfl, e166, own_l rfl, own_l rfl⟩)
    dsimp only [Pt.U, Pt.locs, Pt.cells, Pt.slots] at X192 l_195 y_196 z_197 st198 hQ194
    replace l_195 := l_195.symm
    subst l_195 y_196 z_197
    obtain ⟨rfl, N199, K200, E201, F202, t203, kb204, G205, G206, G207, F208, F209⟩ := hQ194
    have N210 := Fr.app N169 N199
    have ne212 : b ≠ a117 := by rw [g118]; exact Nat.ne_of_lt Fb.lt
    have F211 := F173.keep K200 (ninS ne212 nin0)
    have F213 := F175.keep K200
    have F214 := F186.keep K200 (ninS (Ne.symm ne177) nin0)
    have Z215 : n0 ≤ T188.heap.size := Nat.le_trans Z179 K200.1
    have hk216 := Nat.le_trans hk180 K200.1
    have Sf217 := Safe.keep K200 (allS Sf181 all0) Cr183.1 Sf181
    have Sf218 := Safe.keep K200 (allS Sf181 all0) Cr183.1 Sf182
    have Cr219 := Cr183.trans (CHr.keep K200 (allS Sf181 all0) Cr183.1)
    have O220 := O184.keep K200 (allS G120 all0)
    have P221 : Keep h0 T188.heap [] := P185.trans K200 (allS (P := fun x => x ∈ [] ∨ h0.size ≤ x) (Or.inr H0119) all0)
    have S222 : own_Str Z T188.heap a117 t203 kb204 ([b10] : List Int32) := ⟨E201, F208, F202, F209⟩
    have e223 : T188.heap = T188.heap := rfl
    have k14 : own_J p e below T188 m 37 #[.val (.ref b), .val (.int nv)] [(.ref a117)] B_ := fun t_ hh => k13 t_ (st198.trans hh)
    clear k13 st198 X165 e166
    obtain ⟨fs, hr, hrun, hended, hEnd⟩ := X192.leaveW hS0 (by rw [e223]; exact hk216) (v := some (.ref a117)) (fun h => by rw [Bd.returns] at h; cases h)
    refine ⟨_, _, (own_from hB_ (k14 _ (retOut X192 hx (t := .object "java/lang/String") Bd.returns rfl (Or.inr (Or.inr (Or.inr (Or.inr ⟨rfl, rfl, rfl⟩)))) (hb hby own_h273) hr))), hrun, hended, _, _, rfl, ?_, ?_, hEnd.1, hEnd.2.1, hEnd.2.2.1, hEnd.2.2.2.mono (own_l rfl) (own_l rfl)⟩
    rotate_left
    · show CHr Z own_EL s.vm s.heap T188.vm T188.heap
      rw [hh, e223]
      exact Cr219.trans (CHv.at X192 hZ (own_EW hw) Cr219.1)
    show Q_mk Z nv b0 b1 b2 b3 b4 b5 b6 b7 b8 b9 b10 h0 n0 _ T188.heap _
    rw [e223]
    exact ⟨a117, rfl, N210, P221, G120, E201, by rw [c17]; exact (Or.inl ⟨t203, kb204, S222, own_b8s hcs187 hA⟩)⟩
   ·
    obtain ⟨k, hk, hkb, hlo⟩ := own_first _ hA
    obtain ⟨_, _, ⟨T224, L225, k_226, n_227⟩, -, X228, ⟨Lc229, hQ230, l_231, y_232, z_233⟩, st234⟩ := X165.specialBack hx (y := (⟨"java/lang/String", "<init>", "([C)V"⟩ : MethodName)) rfl hown (mvT hZ (wT hw 26 rfl)) (mvT hZ (wT hw 27 rfl)) (mvT hZ (wT hw 28 rfl)) (by decide) (backOf (W := 1) (rmI2 l Z a0 hw [] a117 a139 kA132 ([b10] : List Int32) k h164 n0 Z179 F175 F178 F176 G120 F186 (own_l rfl) hcs187 hk hkb hlo O184 (Ne.symm ne177) sA sH sL ci sC hc) hZ (wT hw 28 rfl) (wT hw 25 rfl) (by decide) (by decide)) (g := (mkF m 34 #[.val (.ref b), .val (.int nv)] [(.ref a139), (.ref a117), (.ref a117)])) rfl (by rw [hml]; rfl) (Steps.refl _) (a := a117) (argsL := [(.ref a139)]) (rest := [(.ref a117)]) (lenOf own_h257 rfl) rfl (by show 2 * 0 + _ ≤ _; exact Nat.le_of_eq rfl) (hb hby own_h272) (fun _ _ => ⟨rfl, e166, own_l rfl, own_l rfl⟩)
    dsimp only [Pt.U, Pt.locs, Pt.cells, Pt.slots] at X228 l_231 y_232 z_233 st234 hQ230
    replace l_231 := l_231.symm
    subst l_231 y_232 z_233
    obtain ⟨t236, kt237, ds238, rfl, N235, K246, F239, F240, F241, F242, F243, F244, F245, -⟩ := hQ230
    have N247 := Fr.app N169 N235
    have H0248 : h0.size ≤ t236 := Nat.le_trans P185.1 F245
    have ne250 : b ≠ a117 := by rw [g118]; exact Nat.ne_of_lt Fb.lt
    have F249 := F173.keep K246 (ninS ne250 nin0)
    have F251 := F175.keep K246
    have F252 := F186.keep K246 (ninS (Ne.symm ne177) nin0)
    have Z253 : n0 ≤ T224.heap.size := Nat.le_trans Z179 K246.1
    have hk254 := Nat.le_trans hk180 K246.1
    have Sf255 := Safe.keep K246 (allS Sf181 all0) Cr183.1 Sf181
    have Sf256 := Safe.keep K246 (allS Sf181 all0) Cr183.1 Sf182
    have Cr257 := Cr183.trans (CHr.keep K246 (allS Sf181 all0) Cr183.1)
    have O258 := O184.keep K246 (allS G120 all0)
    have P259 : Keep h0 T224.heap [] := P185.trans K246 (allS (P := fun x => x ∈ [] ∨ h0.size ≤ x) (Or.inr H0119) all0)
    have e260 : T224.heap = T224.heap := rfl
    have k15 : own_J p e below T224 m 37 #[.val (.ref b), .val (.int nv)] [(.ref a117)] B_ := fun t_ hh => k13 t_ (st234.trans hh)
    clear k13 st234 X165 e166
    obtain ⟨fs, hr, hrun, hended, hEnd⟩ := X228.leaveW hS0 (by rw [e260]; exact hk254) (v := some (.ref a117)) (fun h => by rw [Bd.returns] at h; cases h)
    refine ⟨_, _, (own_from hB_ (k15 _ (retOut X228 hx (t := .object "java/lang/String") Bd.returns rfl (Or.inr (Or.inr (Or.inr (Or.inr ⟨rfl, rfl, rfl⟩)))) (hb hby own_h273) hr))), hrun, hended, _, _, rfl, ?_, ?_, hEnd.1, hEnd.2.1, hEnd.2.2.1, hEnd.2.2.2.mono (own_l rfl) (own_l rfl)⟩
    rotate_left
    · show CHr Z own_EL s.vm s.heap T224.vm T224.heap
      rw [hh, e260]
      exact Cr257.trans (CHv.at X228 hZ (own_EW hw) Cr257.1)
    show Q_mk Z nv b0 b1 b2 b3 b4 b5 b6 b7 b8 b9 b10 h0 n0 _ T224.heap _
    rw [e260]
    exact ⟨a117, rfl, N247, P259, G120, F239, by rw [c17]; exact (Or.inr ⟨t236, kt237, ds238, F239, F240, F241, F242, F243⟩)⟩
  ·
   have k16 : own_J p e below s₁ m 40 #[.val (.ref b), .val (.int nv)] [(.int (2 : Int32)), (.int nv)] B_ := fun t_ hh => k7 t_ (by
    refine XS.icmpYes X0.here hx rfl (pc0 := 17) (pc' := 38) rfl (hb hby own_h261) rfl (own_icT_ne c17) (by decide) (by decide) ?_
    refine XS.iloadN X0.here hx rfl (hb hby own_h274) rfl ?_
    refine XS.iconst X0.here hx rfl (hb hby own_h275) ?_
    exact hh)
   clear k7
   by_cases c40 : nv = (2 : Int32)
   ·
    have k17 : own_J p e below s₁ m 43 #[.val (.ref b), .val (.int nv)] [] B_ := fun t_ hh => k16 t_ (by
     refine XS.icmpNo X0.here hx rfl (hb hby own_h276) rfl (own_icF_ne c40) ?_
     exact hh)
    clear k16
    obtain ⟨T261, h262, X263, e264, E265, A266, D267, U269, st268⟩ := newO X0 hx hZ hown (wT hw 23 rfl) (wT hw 24 rfl) (wT hw 25 rfl) e0 (g := (mkF m 43 #[.val (.ref b), .val (.int nv)] [])) rfl (hb hby own_h277) (by decide) (by decide)
    obtain ⟨a270, g271⟩ : ∃ z, z = h0.size := ⟨_, rfl⟩
    rw [← g271] at A266 D267 U269 st268
    have H0272 : h0.size ≤ a270 := Nat.le_trans K0.1 (Nat.le_of_eq g271.symm)
    have G273 : n0 ≤ a270 := Nat.le_trans Z0 (Nat.le_of_eq g271.symm)
    have hk274 := Nat.le_trans hk0 E265.1
    have Sf275 := Safe.ext E265 Cr0.1 (Safe.new (x := a270) (Nat.le_of_eq g271.symm))
    have F276 := Fb.ext E265
    have Z277 : n0 ≤ h262.size := Nat.le_trans Z0 E265.1
    have O278 := O0.ext E265
    have P279 : Keep h0 h262 [] := K0.ext E265
    have Cr280 := Cr0.trans (CHr.ext E265 Cr0.1)
    have F281 : Fld Z h262 a270 "java/lang/String" "coder" "B" (.int (0 : Int32)) := D267 (Or.inr (wT hw 49 rfl)) (ty := .byte) (by decide)
    have F282 : Fld Z h262 a270 "java/lang/String" "value" "[B" .null := D267 (Or.inr (wT hw 51 rfl)) (ty := .array .byte) (by decide)
    have k18 : own_J p e below T261 m 46 #[.val (.ref b), .val (.int nv)] [(.ref a270)] B_ := fun t_ hh => k17 t_ (st268 t_ hh)
    clear k17 st268
    have k19 : own_J p e below T261 m 48 #[.val (.ref b), .val (.int nv)] [(.int (2 : Int32)), (.ref a270), (.ref a270)] B_ := fun t_ hh => k18 t_ (by
     refine XS.dup X263.here hx rfl (hb hby own_h278) rfl rfl ?_
     refine XS.iconst X263.here hx rfl (hb hby own_h279) ?_
     exact hh)
    clear k18
    obtain ⟨T283, h284, kA285, X286, e287, E288, A289, st291⟩ := newP X263 hx hZ (wT hw 15 rfl) e264 (g := (mkF m 48 #[.val (.ref b), .val (.int nv)] [(.int (2 : Int32)), (.ref a270), (.ref a270)])) rfl (hb hby own_h280) rfl (by decide) (cap := 2) (by decide) (by decide) (by decide) (by decide)
    obtain ⟨a292, g293⟩ : ∃ z, z = h262.size := ⟨_, rfl⟩
    rw [← g293] at A289 st291
    have H0294 : h0.size ≤ a292 := Nat.le_trans P279.1 (Nat.le_of_eq g293.symm)
    have G295 : n0 ≤ a292 := Nat.le_trans Z277 (Nat.le_of_eq g293.symm)
    have hk296 := Nat.le_trans hk274 E288.1
    have Sf297 := Safe.ext E288 Cr280.1 (Safe.new (x := a292) (Nat.le_of_eq g293.symm))
    have F298 := F276.ext E288
    have F299 := Exa.ext (h' := h284) E288 A266
    have F300 := Fld.ext (h' := h284) E288 F281
    have F301 := Fld.ext (h' := h284) E288 F282
    have Z302 : n0 ≤ h284.size := Nat.le_trans Z277 E288.1
    have O303 := O278.ext E288
    have P304 : Keep h0 h284 [] := P279.ext E288
    have Sf305 := Safe.ext E288 Cr280.1 Sf275
    have Cr306 := Cr280.trans (CHr.ext E288 Cr280.1)
    have V307 : Arv Z h284 a292 kA285 .char (2 : Int32) [(.int (0 : Int32)), (.int (0 : Int32))] (.int (0 : Int32)) := Arv.pad (Arv.new A289 (by decide)) (pad_rep [] (.int (0 : Int32)) 2)
    have k20 : own_J p e below T283 m 50 #[.val (.ref b), .val (.int nv)] [(.ref a292), (.ref a270), (.ref a270)] B_ := fun t_ hh => k19 t_ (st291 t_ hh)
    clear k19 st291 X263 e264
    have k21 : own_J p e below T283 m 56 #[.val (.ref b), .val (.int nv)] [(.int b9), (.int (0 : Int32)), (.ref a292), (.ref a292), (.ref a270), (.ref a270)] B_ := fun t_ hh => k20 t_ (by
     refine XS.dup X286.here hx rfl (hb hby own_h281) rfl rfl ?_
     refine XS.iconst X286.here hx rfl (hb hby own_h282) ?_
     refine XS.aloadN X286.here hx rfl (hb hby own_h283) rfl rfl ?_
     refine XS.bipush X286.here hx rfl (hb hby own_h284) ?_
     refine own_caload X286 hx hZ e287 F298 (j := (9 : Int32)) (v := (.int b9)) (by decide) rfl (g := (mkF m 55 #[.val (.ref b), .val (.int nv)] [(.int (9 : Int32)), (.ref b), (.int (0 : Int32)), (.ref a292), (.ref a292), (.ref a270), (.ref a270)])) rfl rfl (hb hby own_h285) _ ?_
     exact hh)
    clear k20
    obtain ⟨cl308, Ar309, q310, S311, Ng312, H313, Gf314⟩ := id V307
    have hin315 := inb_of (j := (0 : Int32)) S311 (by decide)
    obtain ⟨T316, h317, X318, e319, W320, st321⟩ := stC X286 hx hZ e287 Ar309 (j := (0 : Int32)) hin315 (g := (mkF m 56 #[.val (.ref b), .val (.int nv)] [(.int b9), (.int (0 : Int32)), (.ref a292), (.ref a292), (.ref a270), (.ref a270)])) rfl rfl (hb hby own_h286)
    have N322 := Fr.snoc X318 N0 G295
    have K323 : Keep h284 h317 [a292] := Keep.of_wr W320
    have V324 := Arv.set Ar309 q310 S311 Ng312 H313 Gf314 (v := (.int (nar .char b9))) (fits_nar_char _) W320 0 rfl (own_lt rfl)
    have k22 : own_J p e below T316 m 57 #[.val (.ref b), .val (.int nv)] [(.ref a292), (.ref a270), (.ref a270)] B_ := fun t_ hh => k21 t_ (st321 t_ hh)
    clear k21 st321 X286 e287 cl308 Ar309 q310 S311 Ng312 H313 Gf314 hin315 W320 V307
    have ne325 : b ≠ a292 := by rw [g293]; exact Nat.ne_of_lt F276.lt
    have k23 : own_J p e below T316 m 63 #[.val (.ref b), .val (.int nv)] [(.int b10), (.int (1 : Int32)), (.ref a292), (.ref a292), (.ref a270), (.ref a270)] B_ := fun t_ hh => k22 t_ (by
     refine XS.dup X318.here hx rfl (hb hby own_h287) rfl rfl ?_
     refine XS.iconst X318.here hx rfl (hb hby own_h288) ?_
     refine XS.aloadN X318.here hx rfl (hb hby own_h289) rfl rfl ?_
     refine XS.bipush X318.here hx rfl (hb hby own_h290) ?_
     refine own_caload X318 hx hZ e319 (Arv.keep F298 K323 (ninS ne325 nin0)) (j := (10 : Int32)) (v := (.int b10)) (by decide) rfl (g := (mkF m 62 #[.val (.ref b), .val (.int nv)] [(.int (10 : Int32)), (.ref b), (.int (1 : Int32)), (.ref a292), (.ref a292), (.ref a270), (.ref a270)])) rfl rfl (hb hby own_h291) _ ?_
     exact hh)
    clear k22
    obtain ⟨cl326, Ar327, q328, S329, Ng330, H331, Gf332⟩ := id V324
    have hin333 := inb_of (j := (1 : Int32)) S329 (by decide)
    obtain ⟨T334, h335, X336, e337, W338, st339⟩ := stC X318 hx hZ e319 Ar327 (j := (1 : Int32)) hin333 (g := (mkF m 63 #[.val (.ref b), .val (.int nv)] [(.int b10), (.int (1 : Int32)), (.ref a292), (.ref a292), (.ref a270), (.ref a270)])) rfl rfl (hb hby own_h292)
    have N340 := Fr.snoc X336 N322 G295
    have K341 : Keep h284 h335 [a292] := K323.wr W338 own_m0
    have V342 := Arv.set Ar327 q328 S329 Ng330 H331 Gf332 (v := (.int (nar .char b10))) (fits_nar_char _) W338 1 rfl (own_lt rfl)
    have k24 : own_J p e below T334 m 64 #[.val (.ref b), .val (.int nv)] [(.ref a292), (.ref a270), (.ref a270)] B_ := fun t_ hh => k23 t_ (st339 t_ hh)
    clear k23 st339 X318 e319 cl326 Ar327 q328 S329 Ng330 H331 Gf332 hin333 W338 K323 V324 N322
    have V343 : Arv Z h335 a292 kA285 .char (2 : Int32) [(.int (nar .char b9)), (.int (nar .char b10))] (.int (0 : Int32)) := V342
    have F344 := F298.keep K341 (ninS ne325 nin0)
    have F345 := F299.keep K341
    have ne347 : a270 ≠ a292 := by rw [g293]; exact Nat.ne_of_lt A266.lt
    have F346 := F300.keep K341 (ninS ne347 nin0)
    have F348 := F301.keep K341 (ninS ne347 nin0)
    have Z349 : n0 ≤ h335.size := Nat.le_trans Z302 K341.1
    have hk350 := Nat.le_trans hk296 K341.1
    have Sf351 := Safe.keep K341 (allS Sf297 all0) Cr306.1 Sf305
    have Sf352 := Safe.keep K341 (allS Sf297 all0) Cr306.1 Sf297
    have Cr353 := Cr306.trans (CHr.keep K341 (allS Sf297 all0) Cr306.1)
    have O354 := O303.keep K341 (allS G295 all0)
    have P355 : Keep h0 h335 [] := P304.trans K341 (allS (P := fun x => x ∈ [] ∨ h0.size ≤ x) (Or.inr H0294) all0)
    have F356 : Arv Z h335 a292 kA285 .char (Int32.ofNat 2) (([b9, b10] : List Int32).map Value.int) (.int 0) := by have q := V343; simp only [e9_, e10_] at q; exact q
    have hcs357 : own_chs ([b9, b10] : List Int32) := own_chs_drop (cs := [b0, b1, b2, b3, b4, b5, b6, b7, b8, b9, b10]) 9 hbc
    by_cases hA : ∀ c ∈ ([b9, b10] : List Int32), ¬ (255 : Int32) < c
    ·
     obtain ⟨_, _, ⟨T358, L359, k_360, n_361⟩, -, X362, ⟨Lc363, hQ364, l_365, y_366, z_367⟩, st368⟩ := X336.specialBack hx (y := (⟨"java/lang/String", "<init>", "([C)V"⟩ : MethodName)) rfl hown (mvT hZ (wT hw 26 rfl)) (mvT hZ (wT hw 27 rfl)) (mvT hZ (wT hw 28 rfl)) (by decide) (StrChars.Road.backV (W := 1) hZ (fun d hd => hw d (own_sub_words d hd)) (kI := 4) (wT hw 24 rfl) (cs := ([b9, b10] : List Int32)) (n0 := n0) G273 Z349 F345 F348 F346 F356 (Sta.ext O354.2 sC) hc rfl rfl (own_lt rfl) (own_l rfl) (own_b8s hcs357 hA) rfl (by decide) (by decide)) (g := (mkF m 64 #[.val (.ref b), .val (.int nv)] [(.ref a292), (.ref a270), (.ref a270)])) rfl (by rw [hml]; rfl) (Steps.refl _) (a := a270) (argsL := [(.ref a292)]) (rest := [(.ref a270)]) (lenOf own_h257 rfl) rfl (by show 2 * 0 + _ ≤ _; exact Nat.le_of_eq rfl) (hb hby own_h293) (fun _ _ => ⟨rfl, e337, own_l rfl, own_l rfl⟩)
     dsimp only [Pt.U, Pt.locs, Pt.cells, Pt.slots] at X362 l_365 y_366 z_367 st368 hQ364
     replace l_365 := l_365.symm
     subst l_365 y_366 z_367
     obtain ⟨rfl, N369, K370, E371, F372, t373, kb374, G375, G376, G377, F378, F379⟩ := hQ364
     have N380 := Fr.app N340 N369
     have ne382 : b ≠ a270 := by rw [g271]; exact Nat.ne_of_lt Fb.lt
     have F381 := F344.keep K370 (ninS ne382 nin0)
     have F383 := F345.keep K370
     have F384 := F356.keep K370 (ninS (Ne.symm ne347) nin0)
     have Z385 : n0 ≤ T358.heap.size := Nat.le_trans Z349 K370.1
     have hk386 := Nat.le_trans hk350 K370.1
     have Sf387 := Safe.keep K370 (allS Sf351 all0) Cr353.1 Sf351
     have Sf388 := Safe.keep K370 (allS Sf351 all0) Cr353.1 Sf352
     have Cr389 := Cr353.trans (CHr.keep K370 (allS Sf351 all0) Cr353.1)
     have O390 := O354.keep K370 (allS G273 all0)
     have P391 : Keep h0 T358.heap [] := P355.trans K370 (allS (P := fun x => x ∈ [] ∨ h0.size ≤ x) (Or.inr H0272) all0)
     have S392 : own_Str Z T358.heap a270 t373 kb374 ([b9, b10] : List Int32) := ⟨E371, F378, F372, F379⟩
     have e393 : T358.heap = T358.heap := rfl
     have k25 : own_J p e below T358 m 67 #[.val (.ref b), .val (.int nv)] [(.ref a270)] B_ := fun t_ hh => k24 t_ (st368.trans hh)
     clear k24 st368 X336 e337
     obtain ⟨fs, hr, hrun, hended, hEnd⟩ := X362.leaveW hS0 (by rw [e393]; exact hk386) (v := some (.ref a270)) (fun h => by rw [Bd.returns] at h; cases h)
     refine ⟨_, _, (own_from hB_ (k25 _ (retOut X362 hx (t := .object "java/lang/String") Bd.returns rfl (Or.inr (Or.inr (Or.inr (Or.inr ⟨rfl, rfl, rfl⟩)))) (hb hby own_h294) hr))), hrun, hended, _, _, rfl, ?_, ?_, hEnd.1, hEnd.2.1, hEnd.2.2.1, hEnd.2.2.2.mono (own_l rfl) (own_l rfl)⟩
     rotate_left
     · show CHr Z own_EL s.vm s.heap T358.vm T358.heap
       rw [hh, e393]
       exact Cr389.trans (CHv.at X362 hZ (own_EW hw) Cr389.1)
     show Q_mk Z nv b0 b1 b2 b3 b4 b5 b6 b7 b8 b9 b10 h0 n0 _ T358.heap _
     rw [e393]
     exact ⟨a270, rfl, N380, P391, G273, E371, by rw [c40]; exact (Or.inl ⟨t373, kb374, S392, own_b8s hcs357 hA⟩)⟩
    ·
     obtain ⟨k, hk, hkb, hlo⟩ := own_first _ hA
     obtain ⟨_, _, ⟨T394, L395, k_396, n_397⟩, -, X398, ⟨Lc399, hQ400, l_401, y_402, z_403⟩, st404⟩ := X336.specialBack hx (y := (⟨"java/lang/String", "<init>", "([C)V"⟩ : MethodName)) rfl hown (mvT hZ (wT hw 26 rfl)) (mvT hZ (wT hw 27 rfl)) (mvT hZ (wT hw 28 rfl)) (by decide) (backOf (W := 1) (rmI2 l Z a0 hw [] a270 a292 kA285 ([b9, b10] : List Int32) k h335 n0 Z349 F345 F348 F346 G273 F356 (own_l rfl) hcs357 hk hkb hlo O354 (Ne.symm ne347) sA sH sL ci sC hc) hZ (wT hw 28 rfl) (wT hw 25 rfl) (by decide) (by decide)) (g := (mkF m 64 #[.val (.ref b), .val (.int nv)] [(.ref a292), (.ref a270), (.ref a270)])) rfl (by rw [hml]; rfl) (Steps.refl _) (a := a270) (argsL := [(.ref a292)]) (rest := [(.ref a270)]) (lenOf own_h257 rfl) rfl (by show 2 * 0 + _ ≤ _; exact Nat.le_of_eq rfl) (hb hby own_h293) (fun _ _ => ⟨rfl, e337, own_l rfl, own_l rfl⟩)
     dsimp only [Pt.U, Pt.locs, Pt.cells, Pt.slots] at X398 l_401 y_402 z_403 st404 hQ400
     replace l_401 := l_401.symm
     subst l_401 y_402 z_403
     obtain ⟨t406, kt407, ds408, rfl, N405, K416, F409, F410, F411, F412, F413, F414, F415, -⟩ := hQ400
     have N417 := Fr.app N340 N405
     have H0418 : h0.size ≤ t406 := Nat.le_trans P355.1 F415
     have ne420 : b ≠ a270 := by rw [g271]; exact Nat.ne_of_lt Fb.lt
     have F419 := F344.keep K416 (ninS ne420 nin0)
     have F421 := F345.keep K416
     have F422 := F356.keep K416 (ninS (Ne.symm ne347) nin0)
     have Z423 : n0 ≤ T394.heap.size := Nat.le_trans Z349 K416.1
     have hk424 := Nat.le_trans hk350 K416.1
     have Sf425 := Safe.keep K416 (allS Sf351 all0) Cr353.1 Sf351
     have Sf426 := Safe.keep K416 (allS Sf351 all0) Cr353.1 Sf352
     have Cr427 := Cr353.trans (CHr.keep K416 (allS Sf351 all0) Cr353.1)
     have O428 := O354.keep K416 (allS G273 all0)
     have P429 : Keep h0 T394.heap [] := P355.trans K416 (allS (P := fun x => x ∈ [] ∨ h0.size ≤ x) (Or.inr H0272) all0)
     have e430 : T394.heap = T394.heap := rfl
     have k26 : own_J p e below T394 m 67 #[.val (.ref b), .val (.int nv)] [(.ref a270)] B_ := fun t_ hh => k24 t_ (st404.trans hh)
     clear k24 st404 X336 e337
     obtain ⟨fs, hr, hrun, hended, hEnd⟩ := X398.leaveW hS0 (by rw [e430]; exact hk424) (v := some (.ref a270)) (fun h => by rw [Bd.returns] at h; cases h)
     refine ⟨_, _, (own_from hB_ (k26 _ (retOut X398 hx (t := .object "java/lang/String") Bd.returns rfl (Or.inr (Or.inr (Or.inr (Or.inr ⟨rfl, rfl, rfl⟩)))) (hb hby own_h294) hr))), hrun, hended, _, _, rfl, ?_, ?_, hEnd.1, hEnd.2.1, hEnd.2.2.1, hEnd.2.2.2.mono (own_l rfl) (own_l rfl)⟩
     rotate_left
     · show CHr Z own_EL s.vm s.heap T394.vm T394.heap
       rw [hh, e430]
       exact Cr427.trans (CHv.at X398 hZ (own_EW hw) Cr427.1)
     show Q_mk Z nv b0 b1 b2 b3 b4 b5 b6 b7 b8 b9 b10 h0 n0 _ T394.heap _
     rw [e430]
     exact ⟨a270, rfl, N417, P429, G273, F409, by rw [c40]; exact (Or.inr ⟨t406, kt407, ds408, F409, F410, F411, F412, F413⟩)⟩
   ·
    have k27 : own_J p e below s₁ m 70 #[.val (.ref b), .val (.int nv)] [(.int (3 : Int32)), (.int nv)] B_ := fun t_ hh => k16 t_ (by
     refine XS.icmpYes X0.here hx rfl (pc0 := 40) (pc' := 68) rfl (hb hby own_h276) rfl (own_icT_ne c40) (by decide) (by decide) ?_
     refine XS.iloadN X0.here hx rfl (hb hby own_h295) rfl ?_
     refine XS.iconst X0.here hx rfl (hb hby own_h296) ?_
     exact hh)
    clear k16
    by_cases c70 : nv = (3 : Int32)
    ·
     have k28 : own_J p e below s₁ m 73 #[.val (.ref b), .val (.int nv)] [] B_ := fun t_ hh => k27 t_ (by
      refine XS.icmpNo X0.here hx rfl (hb hby own_h297) rfl (own_icF_ne c70) ?_
      exact hh)
     clear k27
     obtain ⟨T431, h432, X433, e434, E435, A436, D437, U439, st438⟩ := newO X0 hx hZ hown (wT hw 23 rfl) (wT hw 24 rfl) (wT hw 25 rfl) e0 (g := (mkF m 73 #[.val (.ref b), .val (.int nv)] [])) rfl (hb hby own_h298) (by decide) (by decide)
     obtain ⟨a440, g441⟩ : ∃ z, z = h0.size := ⟨_, rfl⟩
     rw [← g441] at A436 D437 U439 st438
     have H0442 : h0.size ≤ a440 := Nat.le_trans K0.1 (Nat.le_of_eq g441.symm)
     have G443 : n0 ≤ a440 := Nat.le_trans Z0 (Nat.le_of_eq g441.symm)
     have hk444 := Nat.le_trans hk0 E435.1
     have Sf445 := Safe.ext E435 Cr0.1 (Safe.new (x := a440) (Nat.le_of_eq g441.symm))
     have F446 := Fb.ext E435
     have Z447 : n0 ≤ h432.size := Nat.le_trans Z0 E435.1
     have O448 := O0.ext E435
     have P449 : Keep h0 h432 [] := K0.ext E435
     have Cr450 := Cr0.trans (CHr.ext E435 Cr0.1)
     have F451 : Fld Z h432 a440 "java/lang/String" "coder" "B" (.int (0 : Int32)) := D437 (Or.inr (wT hw 49 rfl)) (ty := .byte) (by decide)
     have F452 : Fld Z h432 a440 "java/lang/String" "value" "[B" .null := D437 (Or.inr (wT hw 51 rfl)) (ty := .array .byte) (by decide)
     have k29 : own_J p e below T431 m 76 #[.val (.ref b), .val (.int nv)] [(.ref a440)] B_ := fun t_ hh => k28 t_ (st438 t_ hh)
     clear k28 st438
     have k30 : own_J p e below T431 m 78 #[.val (.ref b), .val (.int nv)] [(.int (3 : Int32)), (.ref a440), (.ref a440)] B_ := fun t_ hh => k29 t_ (by
      refine XS.dup X433.here hx rfl (hb hby own_h299) rfl rfl ?_
      refine XS.iconst X433.here hx rfl (hb hby own_h300) ?_
      exact hh)
     clear k29
     obtain ⟨T453, h454, kA455, X456, e457, E458, A459, st461⟩ := newP X433 hx hZ (wT hw 15 rfl) e434 (g := (mkF m 78 #[.val (.ref b), .val (.int nv)] [(.int (3 : Int32)), (.ref a440), (.ref a440)])) rfl (hb hby own_h301) rfl (by decide) (cap := 3) (by decide) (by decide) (by decide) (by decide)
     obtain ⟨a462, g463⟩ : ∃ z, z = h432.size := ⟨_, rfl⟩
     rw [← g463] at A459 st461
     have H0464 : h0.size ≤ a462 := Nat.le_trans P449.1 (Nat.le_of_eq g463.symm)
     have G465 : n0 ≤ a462 := Nat.le_trans Z447 (Nat.le_of_eq g463.symm)
     have hk466 := Nat.le_trans hk444 E458.1
     have Sf467 := Safe.ext E458 Cr450.1 (Safe.new (x := a462) (Nat.le_of_eq g463.symm))
     have F468 := F446.ext E458
     have F469 := Exa.ext (h' := h454) E458 A436
     have F470 := Fld.ext (h' := h454) E458 F451
     have F471 := Fld.ext (h' := h454) E458 F452
     have Z472 : n0 ≤ h454.size := Nat.le_trans Z447 E458.1
     have O473 := O448.ext E458
     have P474 : Keep h0 h454 [] := P449.ext E458
     have Sf475 := Safe.ext E458 Cr450.1 Sf445
     have Cr476 := Cr450.trans (CHr.ext E458 Cr450.1)
     have V477 : Arv Z h454 a462 kA455 .char (3 : Int32) [(.int (0 : Int32)), (.int (0 : Int32)), (.int (0 : Int32))] (.int (0 : Int32)) := Arv.pad (Arv.new A459 (by decide)) (pad_rep [] (.int (0 : Int32)) 3)
     have k31 : own_J p e below T453 m 80 #[.val (.ref b), .val (.int nv)] [(.ref a462), (.ref a440), (.ref a440)] B_ := fun t_ hh => k30 t_ (st461 t_ hh)
     clear k30 st461 X433 e434
     have k32 : own_J p e below T453 m 86 #[.val (.ref b), .val (.int nv)] [(.int b8), (.int (0 : Int32)), (.ref a462), (.ref a462), (.ref a440), (.ref a440)] B_ := fun t_ hh => k31 t_ (by
      refine XS.dup X456.here hx rfl (hb hby own_h302) rfl rfl ?_
      refine XS.iconst X456.here hx rfl (hb hby own_h303) ?_
      refine XS.aloadN X456.here hx rfl (hb hby own_h304) rfl rfl ?_
      refine XS.bipush X456.here hx rfl (hb hby own_h305) ?_
      refine own_caload X456 hx hZ e457 F468 (j := (8 : Int32)) (v := (.int b8)) (by decide) rfl (g := (mkF m 85 #[.val (.ref b), .val (.int nv)] [(.int (8 : Int32)), (.ref b), (.int (0 : Int32)), (.ref a462), (.ref a462), (.ref a440), (.ref a440)])) rfl rfl (hb hby own_h306) _ ?_
      exact hh)
     clear k31
     obtain ⟨cl478, Ar479, q480, S481, Ng482, H483, Gf484⟩ := id V477
     have hin485 := inb_of (j := (0 : Int32)) S481 (by decide)
     obtain ⟨T486, h487, X488, e489, W490, st491⟩ := stC X456 hx hZ e457 Ar479 (j := (0 : Int32)) hin485 (g := (mkF m 86 #[.val (.ref b), .val (.int nv)] [(.int b8), (.int (0 : Int32)), (.ref a462), (.ref a462), (.ref a440), (.ref a440)])) rfl rfl (hb hby own_h307)
     have N492 := Fr.snoc X488 N0 G465
     have K493 : Keep h454 h487 [a462] := Keep.of_wr W490
     have V494 := Arv.set Ar479 q480 S481 Ng482 H483 Gf484 (v := (.int (nar .char b8))) (fits_nar_char _) W490 0 rfl (own_lt rfl)
     have k33 : own_J p e below T486 m 87 #[.val (.ref b), .val (.int nv)] [(.ref a462), (.ref a440), (.ref a440)] B_ := fun t_ hh => k32 t_ (st491 t_ hh)
     clear k32 st491 X456 e457 cl478 Ar479 q480 S481 Ng482 H483 Gf484 hin485 W490 V477
     have ne495 : b ≠ a462 := by rw [g463]; exact Nat.ne_of_lt F446.lt
     have k34 : own_J p e below T486 m 93 #[.val (.ref b), .val (.int nv)] [(.int b9), (.int (1 : Int32)), (.ref a462), (.ref a462), (.ref a440), (.ref a440)] B_ := fun t_ hh => k33 t_ (by
      refine XS.dup X488.here hx rfl (hb hby own_h308) rfl rfl ?_
      refine XS.iconst X488.here hx rfl (hb hby own_h309) ?_
      refine XS.aloadN X488.here hx rfl (hb hby own_h310) rfl rfl ?_
      refine XS.bipush X488.here hx rfl (hb hby own_h311) ?_
      refine own_caload X488 hx hZ e489 (Arv.keep F468 K493 (ninS ne495 nin0)) (j := (9 : Int32)) (v := (.int b9)) (by decide) rfl (g := (mkF m 92 #[.val (.ref b), .val (.int nv)] [(.int (9 : Int32)), (.ref b), (.int (1 : Int32)), (.ref a462), (.ref a462), (.ref a440), (.ref a440)])) rfl rfl (hb hby own_h312) _ ?_
      exact hh)
     clear k33
     obtain ⟨cl496, Ar497, q498, S499, Ng500, H501, Gf502⟩ := id V494
     have hin503 := inb_of (j := (1 : Int32)) S499 (by decide)
     obtain ⟨T504, h505, X506, e507, W508, st509⟩ := stC X488 hx hZ e489 Ar497 (j := (1 : Int32)) hin503 (g := (mkF m 93 #[.val (.ref b), .val (.int nv)] [(.int b9), (.int (1 : Int32)), (.ref a462), (.ref a462), (.ref a440), (.ref a440)])) rfl rfl (hb hby own_h313)
     have N510 := Fr.snoc X506 N492 G465
     have K511 : Keep h454 h505 [a462] := K493.wr W508 own_m0
     have V512 := Arv.set Ar497 q498 S499 Ng500 H501 Gf502 (v := (.int (nar .char b9))) (fits_nar_char _) W508 1 rfl (own_lt rfl)
     have k35 : own_J p e below T504 m 94 #[.val (.ref b), .val (.int nv)] [(.ref a462), (.ref a440), (.ref a440)] B_ := fun t_ hh => k34 t_ (st509 t_ hh)
     clear k34 st509 X488 e489 cl496 Ar497 q498 S499 Ng500 H501 Gf502 hin503 W508 K493 V494 N492
     have k36 : own_J p e below T504 m 100 #[.val (.ref b), .val (.int nv)] [(.int b10), (.int (2 : Int32)), (.ref a462), (.ref a462), (.ref a440), (.ref a440)] B_ := fun t_ hh => k35 t_ (by
      refine XS.dup X506.here hx rfl (hb hby own_h314) rfl rfl ?_
      refine XS.iconst X506.here hx rfl (hb hby own_h315) ?_
      refine XS.aloadN X506.here hx rfl (hb hby own_h316) rfl rfl ?_
      refine XS.bipush X506.here hx rfl (hb hby own_h317) ?_
      refine own_caload X506 hx hZ e507 (Arv.keep F468 K511 (ninS ne495 nin0)) (j := (10 : Int32)) (v := (.int b10)) (by decide) rfl (g := (mkF m 99 #[.val (.ref b), .val (.int nv)] [(.int (10 : Int32)), (.ref b), (.int (2 : Int32)), (.ref a462), (.ref a462), (.ref a440), (.ref a440)])) rfl rfl (hb hby own_h318) _ ?_
      exact hh)
     clear k35
     obtain ⟨cl513, Ar514, q515, S516, Ng517, H518, Gf519⟩ := id V512
     have hin520 := inb_of (j := (2 : Int32)) S516 (by decide)
     obtain ⟨T521, h522, X523, e524, W525, st526⟩ := stC X506 hx hZ e507 Ar514 (j := (2 : Int32)) hin520 (g := (mkF m 100 #[.val (.ref b), .val (.int nv)] [(.int b10), (.int (2 : Int32)), (.ref a462), (.ref a462), (.ref a440), (.ref a440)])) rfl rfl (hb hby own_h319)
     have N527 := Fr.snoc X523 N510 G465
     have K528 : Keep h454 h522 [a462] := K511.wr W525 own_m0
     have V529 := Arv.set Ar514 q515 S516 Ng517 H518 Gf519 (v := (.int (nar .char b10))) (fits_nar_char _) W525 2 rfl (own_lt rfl)
     have k37 : own_J p e below T521 m 101 #[.val (.ref b), .val (.int nv)] [(.ref a462), (.ref a440), (.ref a440)] B_ := fun t_ hh => k36 t_ (st526 t_ hh)
     clear k36 st526 X506 e507 cl513 Ar514 q515 S516 Ng517 H518 Gf519 hin520 W525 K511 V512 N510
     have V530 : Arv Z h522 a462 kA455 .char (3 : Int32) [(.int (nar .char b8)), (.int (nar .char b9)), (.int (nar .char b10))] (.int (0 : Int32)) := V529
     have F531 := F468.keep K528 (ninS ne495 nin0)
     have F532 := F469.keep K528
     have ne534 : a440 ≠ a462 := by rw [g463]; exact Nat.ne_of_lt A436.lt
     have F533 := F470.keep K528 (ninS ne534 nin0)
     have F535 := F471.keep K528 (ninS ne534 nin0)
     have Z536 : n0 ≤ h522.size := Nat.le_trans Z472 K528.1
     have hk537 := Nat.le_trans hk466 K528.1
     have Sf538 := Safe.keep K528 (allS Sf467 all0) Cr476.1 Sf475
     have Sf539 := Safe.keep K528 (allS Sf467 all0) Cr476.1 Sf467
     have Cr540 := Cr476.trans (CHr.keep K528 (allS Sf467 all0) Cr476.1)
     have O541 := O473.keep K528 (allS G465 all0)
     have P542 : Keep h0 h522 [] := P474.trans K528 (allS (P := fun x => x ∈ [] ∨ h0.size ≤ x) (Or.inr H0464) all0)
     have F543 : Arv Z h522 a462 kA455 .char (Int32.ofNat 3) (([b8, b9, b10] : List Int32).map Value.int) (.int 0) := by have q := V530; simp only [e8_, e9_, e10_] at q; exact q
     have hcs544 : own_chs ([b8, b9, b10] : List Int32) := own_chs_drop (cs := [b0, b1, b2, b3, b4, b5, b6, b7, b8, b9, b10]) 8 hbc
     by_cases hA : ∀ c ∈ ([b8, b9, b10] : List Int32), ¬ (255 : Int32) < c
     ·
      obtain ⟨_, _, ⟨T545, L546, k_547, n_548⟩, -, X549, ⟨Lc550, hQ551, l_552, y_553, z_554⟩, st555⟩ := X523.specialBack hx (y := (⟨"java/lang/String", "<init>", "([C)V"⟩ : MethodName)) rfl hown (mvT hZ (wT hw 26 rfl)) (mvT hZ (wT hw 27 rfl)) (mvT hZ (wT hw 28 rfl)) (by decide) (StrChars.Road.backV (W := 1) hZ (fun d hd => hw d (own_sub_words d hd)) (kI := 4) (wT hw 24 rfl) (cs := ([b8, b9, b10] : List Int32)) (n0 := n0) G443 Z536 F532 F535 F533 F543 (Sta.ext O541.2 sC) hc rfl rfl (own_lt rfl) (own_l rfl) (own_b8s hcs544 hA) rfl (by decide) (by decide)) (g := (mkF m 101 #[.val (.ref b), .val (.int nv)] [(.ref a462), (.ref a440), (.ref a440)])) rfl (by rw [hml]; rfl) (Steps.refl _) (a := a440) (argsL := [(.ref a462)]) (rest := [(.ref a440)]) (lenOf own_h257 rfl) rfl (by show 2 * 0 + _ ≤ _; exact Nat.le_of_eq rfl) (hb hby own_h320) (fun _ _ => ⟨rfl, e524, own_l rfl, own_l rfl⟩)
      dsimp only [Pt.U, Pt.locs, Pt.cells, Pt.slots] at X549 l_552 y_553 z_554 st555 hQ551
      replace l_552 := l_552.symm
      subst l_552 y_553 z_554
      obtain ⟨rfl, N556, K557, E558, F559, t560, kb561, G562, G563, G564, F565, F566⟩ := hQ551
      have N567 := Fr.app N527 N556
      have ne569 : b ≠ a440 := by rw [g441]; exact Nat.ne_of_lt Fb.lt
      have F568 := F531.keep K557 (ninS ne569 nin0)
      have F570 := F532.keep K557
      have F571 := F543.keep K557 (ninS (Ne.symm ne534) nin0)
      have Z572 : n0 ≤ T545.heap.size := Nat.le_trans Z536 K557.1
      have hk573 := Nat.le_trans hk537 K557.1
      have Sf574 := Safe.keep K557 (allS Sf538 all0) Cr540.1 Sf538
      have Sf575 := Safe.keep K557 (allS Sf538 all0) Cr540.1 Sf539
      have Cr576 := Cr540.trans (CHr.keep K557 (allS Sf538 all0) Cr540.1)
      have O577 := O541.keep K557 (allS G443 all0)
      have P578 : Keep h0 T545.heap [] := P542.trans K557 (allS (P := fun x => x ∈ [] ∨ h0.size ≤ x) (Or.inr H0442) all0)
      have S579 : own_Str Z T545.heap a440 t560 kb561 ([b8, b9, b10] : List Int32) := ⟨E558, F565, F559, F566⟩
      have e580 : T545.heap = T545.heap := rfl
      have k38 : own_J p e below T545 m 104 #[.val (.ref b), .val (.int nv)] [(.ref a440)] B_ := fun t_ hh => k37 t_ (st555.trans hh)
      clear k37 st555 X523 e524
      obtain ⟨fs, hr, hrun, hended, hEnd⟩ := X549.leaveW hS0 (by rw [e580]; exact hk573) (v := some (.ref a440)) (fun h => by rw [Bd.returns] at h; cases h)
      refine ⟨_, _, (own_from hB_ (k38 _ (retOut X549 hx (t := .object "java/lang/String") Bd.returns rfl (Or.inr (Or.inr (Or.inr (Or.inr ⟨rfl, rfl, rfl⟩)))) (hb hby own_h321) hr))), hrun, hended, _, _, rfl, ?_, ?_, hEnd.1, hEnd.2.1, hEnd.2.2.1, hEnd.2.2.2.mono (own_l rfl) (own_l rfl)⟩
      rotate_left
      · show CHr Z own_EL s.vm s.heap T545.vm T545.heap
        rw [hh, e580]
        exact Cr576.trans (CHv.at X549 hZ (own_EW hw) Cr576.1)
      show Q_mk Z nv b0 b1 b2 b3 b4 b5 b6 b7 b8 b9 b10 h0 n0 _ T545.heap _
      rw [e580]
      exact ⟨a440, rfl, N567, P578, G443, E558, by rw [c70]; exact (Or.inl ⟨t560, kb561, S579, own_b8s hcs544 hA⟩)⟩
     ·
      obtain ⟨k, hk, hkb, hlo⟩ := own_first _ hA
      obtain ⟨_, _, ⟨T581, L582, k_583, n_584⟩, -, X585, ⟨Lc586, hQ587, l_588, y_589, z_590⟩, st591⟩ := X523.specialBack hx (y := (⟨"java/lang/String", "<init>", "([C)V"⟩ : MethodName)) rfl hown (mvT hZ (wT hw 26 rfl)) (mvT hZ (wT hw 27 rfl)) (mvT hZ (wT hw 28 rfl)) (by decide) (backOf (W := 1) (rmI2 l Z a0 hw [] a440 a462 kA455 ([b8, b9, b10] : List Int32) k h522 n0 Z536 F532 F535 F533 G443 F543 (own_l rfl) hcs544 hk hkb hlo O541 (Ne.symm ne534) sA sH sL ci sC hc) hZ (wT hw 28 rfl) (wT hw 25 rfl) (by decide) (by decide)) (g := (mkF m 101 #[.val (.ref b), .val (.int nv)] [(.ref a462), (.ref a440), (.ref a440)])) rfl (by rw [hml]; rfl) (Steps.refl _) (a := a440) (argsL := [(.ref a462)]) (rest := [(.ref a440)]) (lenOf own_h257 rfl) rfl (by show 2 * 0 + _ ≤ _; exact Nat.le_of_eq rfl) (hb hby own_h320) (fun _ _ => ⟨rfl, e524, own_l rfl, own_l rfl⟩)
      dsimp only [Pt.U, Pt.locs, Pt.cells, Pt.slots] at X585 l_588 y_589 z_590 st591 hQ587
      replace l_588 := l_588.symm
      subst l_588 y_589 z_590
      obtain ⟨t593, kt594, ds595, rfl, N592, K603, F596, F597, F598, F599, F600, F601, F602, -⟩ := hQ587
      have N604 := Fr.app N527 N592
      have H0605 : h0.size ≤ t593 := Nat.le_trans P542.1 F602
      have ne607 : b ≠ a440 := by rw [g441]; exact Nat.ne_of_lt Fb.lt
      have F606 := F531.keep K603 (ninS ne607 nin0)
      have F608 := F532.keep K603
      have F609 := F543.keep K603 (ninS (Ne.symm ne534) nin0)
      have Z610 : n0 ≤ T581.heap.size := Nat.le_trans Z536 K603.1
      have hk611 := Nat.le_trans hk537 K603.1
      have Sf612 := Safe.keep K603 (allS Sf538 all0) Cr540.1 Sf538
      have Sf613 := Safe.keep K603 (allS Sf538 all0) Cr540.1 Sf539
      have Cr614 := Cr540.trans (CHr.keep K603 (allS Sf538 all0) Cr540.1)
      have O615 := O541.keep K603 (allS G443 all0)
      have P616 : Keep h0 T581.heap [] := P542.trans K603 (allS (P := fun x => x ∈ [] ∨ h0.size ≤ x) (Or.inr H0442) all0)
      have e617 : T581.heap = T581.heap := rfl
      have k39 : own_J p e below T581 m 104 #[.val (.ref b), .val (.int nv)] [(.ref a440)] B_ := fun t_ hh => k37 t_ (st591.trans hh)
      clear k37 st591 X523 e524
      obtain ⟨fs, hr, hrun, hended, hEnd⟩ := X585.leaveW hS0 (by rw [e617]; exact hk611) (v := some (.ref a440)) (fun h => by rw [Bd.returns] at h; cases h)
      refine ⟨_, _, (own_from hB_ (k39 _ (retOut X585 hx (t := .object "java/lang/String") Bd.returns rfl (Or.inr (Or.inr (Or.inr (Or.inr ⟨rfl, rfl, rfl⟩)))) (hb hby own_h321) hr))), hrun, hended, _, _, rfl, ?_, ?_, hEnd.1, hEnd.2.1, hEnd.2.2.1, hEnd.2.2.2.mono (own_l rfl) (own_l rfl)⟩
      rotate_left
      · show CHr Z own_EL s.vm s.heap T581.vm T581.heap
        rw [hh, e617]
        exact Cr614.trans (CHv.at X585 hZ (own_EW hw) Cr614.1)
      show Q_mk Z nv b0 b1 b2 b3 b4 b5 b6 b7 b8 b9 b10 h0 n0 _ T581.heap _
      rw [e617]
      exact ⟨a440, rfl, N604, P616, G443, F596, by rw [c70]; exact (Or.inr ⟨t593, kt594, ds595, F596, F597, F598, F599, F600⟩)⟩
    ·
     have k40 : own_J p e below s₁ m 107 #[.val (.ref b), .val (.int nv)] [(.int (4 : Int32)), (.int nv)] B_ := fun t_ hh => k27 t_ (by
      refine XS.icmpYes X0.here hx rfl (pc0 := 70) (pc' := 105) rfl (hb hby own_h297) rfl (own_icT_ne c70) (by decide) (by decide) ?_
      refine XS.iloadN X0.here hx rfl (hb hby own_h322) rfl ?_
      refine XS.iconst X0.here hx rfl (hb hby own_h323) ?_
      exact hh)
     clear k27
     by_cases c107 : nv = (4 : Int32)
     ·
      have k41 : own_J p e below s₁ m 110 #[.val (.ref b), .val (.int nv)] [] B_ := fun t_ hh => k40 t_ (by
       refine XS.icmpNo X0.here hx rfl (hb hby own_h324) rfl (own_icF_ne c107) ?_
       exact hh)
      clear k40
      obtain ⟨T618, h619, X620, e621, E622, A623, D624, U626, st625⟩ := newO X0 hx hZ hown (wT hw 23 rfl) (wT hw 24 rfl) (wT hw 25 rfl) e0 (g := (mkF m 110 #[.val (.ref b), .val (.int nv)] [])) rfl (hb hby own_h325) (by decide) (by decide)
      obtain ⟨a627, g628⟩ : ∃ z, z = h0.size := ⟨_, rfl⟩
      rw [← g628] at A623 D624 U626 st625
      have H0629 : h0.size ≤ a627 := Nat.le_trans K0.1 (Nat.le_of_eq g628.symm)
      have G630 : n0 ≤ a627 := Nat.le_trans Z0 (Nat.le_of_eq g628.symm)
      have hk631 := Nat.le_trans hk0 E622.1
      have Sf632 := Safe.ext E622 Cr0.1 (Safe.new (x := a627) (Nat.le_of_eq g628.symm))
      have F633 := Fb.ext E622
      have Z634 : n0 ≤ h619.size := Nat.le_trans Z0 E622.1
      have O635 := O0.ext E622
      have P636 : Keep h0 h619 [] := K0.ext E622
      have Cr637 := Cr0.trans (CHr.ext E622 Cr0.1)
      have F638 : Fld Z h619 a627 "java/lang/String" "coder" "B" (.int (0 : Int32)) := D624 (Or.inr (wT hw 49 rfl)) (ty := .byte) (by decide)
      have F639 : Fld Z h619 a627 "java/lang/String" "value" "[B" .null := D624 (Or.inr (wT hw 51 rfl)) (ty := .array .byte) (by decide)
      have k42 : own_J p e below T618 m 113 #[.val (.ref b), .val (.int nv)] [(.ref a627)] B_ := fun t_ hh => k41 t_ (st625 t_ hh)
      clear k41 st625
      have k43 : own_J p e below T618 m 115 #[.val (.ref b), .val (.int nv)] [(.int (4 : Int32)), (.ref a627), (.ref a627)] B_ := fun t_ hh => k42 t_ (by
       refine XS.dup X620.here hx rfl (hb hby own_h326) rfl rfl ?_
       refine XS.iconst X620.here hx rfl (hb hby own_h327) ?_
       exact hh)
      clear k42
      obtain ⟨T640, h641, kA642, X643, e644, E645, A646, st648⟩ := newP X620 hx hZ (wT hw 15 rfl) e621 (g := (mkF m 115 #[.val (.ref b), .val (.int nv)] [(.int (4 : Int32)), (.ref a627), (.ref a627)])) rfl (hb hby own_h328) rfl (by decide) (cap := 4) (by decide) (by decide) (by decide) (by decide)
      obtain ⟨a649, g650⟩ : ∃ z, z = h619.size := ⟨_, rfl⟩
      rw [← g650] at A646 st648
      have H0651 : h0.size ≤ a649 := Nat.le_trans P636.1 (Nat.le_of_eq g650.symm)
      have G652 : n0 ≤ a649 := Nat.le_trans Z634 (Nat.le_of_eq g650.symm)
      have hk653 := Nat.le_trans hk631 E645.1
      have Sf654 := Safe.ext E645 Cr637.1 (Safe.new (x := a649) (Nat.le_of_eq g650.symm))
      have F655 := F633.ext E645
      have F656 := Exa.ext (h' := h641) E645 A623
      have F657 := Fld.ext (h' := h641) E645 F638
      have F658 := Fld.ext (h' := h641) E645 F639
      have Z659 : n0 ≤ h641.size := Nat.le_trans Z634 E645.1
      have O660 := O635.ext E645
      have P661 : Keep h0 h641 [] := P636.ext E645
      have Sf662 := Safe.ext E645 Cr637.1 Sf632
      have Cr663 := Cr637.trans (CHr.ext E645 Cr637.1)
      have V664 : Arv Z h641 a649 kA642 .char (4 : Int32) [(.int (0 : Int32)), (.int (0 : Int32)), (.int (0 : Int32)), (.int (0 : Int32))] (.int (0 : Int32)) := Arv.pad (Arv.new A646 (by decide)) (pad_rep [] (.int (0 : Int32)) 4)
      have k44 : own_J p e below T640 m 117 #[.val (.ref b), .val (.int nv)] [(.ref a649), (.ref a627), (.ref a627)] B_ := fun t_ hh => k43 t_ (st648 t_ hh)
      clear k43 st648 X620 e621
      have k45 : own_J p e below T640 m 123 #[.val (.ref b), .val (.int nv)] [(.int b7), (.int (0 : Int32)), (.ref a649), (.ref a649), (.ref a627), (.ref a627)] B_ := fun t_ hh => k44 t_ (by
       refine XS.dup X643.here hx rfl (hb hby own_h329) rfl rfl ?_
       refine XS.iconst X643.here hx rfl (hb hby own_h330) ?_
       refine XS.aloadN X643.here hx rfl (hb hby own_h331) rfl rfl ?_
       refine XS.bipush X643.here hx rfl (hb hby own_h332) ?_
       refine own_caload X643 hx hZ e644 F655 (j := (7 : Int32)) (v := (.int b7)) (by decide) rfl (g := (mkF m 122 #[.val (.ref b), .val (.int nv)] [(.int (7 : Int32)), (.ref b), (.int (0 : Int32)), (.ref a649), (.ref a649), (.ref a627), (.ref a627)])) rfl rfl (hb hby own_h333) _ ?_
       exact hh)
      clear k44
      obtain ⟨cl665, Ar666, q667, S668, Ng669, H670, Gf671⟩ := id V664
      have hin672 := inb_of (j := (0 : Int32)) S668 (by decide)
      obtain ⟨T673, h674, X675, e676, W677, st678⟩ := stC X643 hx hZ e644 Ar666 (j := (0 : Int32)) hin672 (g := (mkF m 123 #[.val (.ref b), .val (.int nv)] [(.int b7), (.int (0 : Int32)), (.ref a649), (.ref a649), (.ref a627), (.ref a627)])) rfl rfl (hb hby own_h334)
      have N679 := Fr.snoc X675 N0 G652
      have K680 : Keep h641 h674 [a649] := Keep.of_wr W677
      have V681 := Arv.set Ar666 q667 S668 Ng669 H670 Gf671 (v := (.int (nar .char b7))) (fits_nar_char _) W677 0 rfl (own_lt rfl)
      have k46 : own_J p e below T673 m 124 #[.val (.ref b), .val (.int nv)] [(.ref a649), (.ref a627), (.ref a627)] B_ := fun t_ hh => k45 t_ (st678 t_ hh)
      clear k45 st678 X643 e644 cl665 Ar666 q667 S668 Ng669 H670 Gf671 hin672 W677 V664
      have ne682 : b ≠ a649 := by rw [g650]; exact Nat.ne_of_lt F633.lt
      have k47 : own_J p e below T673 m 130 #[.val (.ref b), .val (.int nv)] [(.int b8), (.int (1 : Int32)), (.ref a649), (.ref a649), (.ref a627), (.ref a627)] B_ := fun t_ hh => k46 t_ (by
       refine XS.dup X675.here hx rfl (hb hby own_h335) rfl rfl ?_
       refine XS.iconst X675.here hx rfl (hb hby own_h336) ?_
       refine XS.aloadN X675.here hx rfl (hb hby own_h337) rfl rfl ?_
       refine XS.bipush X675.here hx rfl (hb hby own_h338) ?_
       refine own_caload X675 hx hZ e676 (Arv.keep F655 K680 (ninS ne682 nin0)) (j := (8 : Int32)) (v := (.int b8)) (by decide) rfl (g := (mkF m 129 #[.val (.ref b), .val (.int nv)] [(.int (8 : Int32)), (.ref b), (.int (1 : Int32)), (.ref a649), (.ref a649), (.ref a627), (.ref a627)])) rfl rfl (hb hby own_h339) _ ?_
       exact hh)
      clear k46
      obtain ⟨cl683, Ar684, q685, S686, Ng687, H688, Gf689⟩ := id V681
      have hin690 := inb_of (j := (1 : Int32)) S686 (by decide)
      obtain ⟨T691, h692, X693, e694, W695, st696⟩ := stC X675 hx hZ e676 Ar684 (j := (1 : Int32)) hin690 (g := (mkF m 130 #[.val (.ref b), .val (.int nv)] [(.int b8), (.int (1 : Int32)), (.ref a649), (.ref a649), (.ref a627), (.ref a627)])) rfl rfl (hb hby own_h340)
      have N697 := Fr.snoc X693 N679 G652
      have K698 : Keep h641 h692 [a649] := K680.wr W695 own_m0
      have V699 := Arv.set Ar684 q685 S686 Ng687 H688 Gf689 (v := (.int (nar .char b8))) (fits_nar_char _) W695 1 rfl (own_lt rfl)
      have k48 : own_J p e below T691 m 131 #[.val (.ref b), .val (.int nv)] [(.ref a649), (.ref a627), (.ref a627)] B_ := fun t_ hh => k47 t_ (st696 t_ hh)
      clear k47 st696 X675 e676 cl683 Ar684 q685 S686 Ng687 H688 Gf689 hin690 W695 K680 V681 N679
      have k49 : own_J p e below T691 m 137 #[.val (.ref b), .val (.int nv)] [(.int b9), (.int (2 : Int32)), (.ref a649), (.ref a649), (.ref a627), (.ref a627)] B_ := fun t_ hh => k48 t_ (by
       refine XS.dup X693.here hx rfl (hb hby own_h341) rfl rfl ?_
       refine XS.iconst X693.here hx rfl (hb hby own_h342) ?_
       refine XS.aloadN X693.here hx rfl (hb hby own_h343) rfl rfl ?_
       refine XS.bipush X693.here hx rfl (hb hby own_h344) ?_
       refine own_caload X693 hx hZ e694 (Arv.keep F655 K698 (ninS ne682 nin0)) (j := (9 : Int32)) (v := (.int b9)) (by decide) rfl (g := (mkF m 136 #[.val (.ref b), .val (.int nv)] [(.int (9 : Int32)), (.ref b), (.int (2 : Int32)), (.ref a649), (.ref a649), (.ref a627), (.ref a627)])) rfl rfl (hb hby own_h345) _ ?_
       exact hh)
      clear k48
      obtain ⟨cl700, Ar701, q702, S703, Ng704, H705, Gf706⟩ := id V699
      have hin707 := inb_of (j := (2 : Int32)) S703 (by decide)
      obtain ⟨T708, h709, X710, e711, W712, st713⟩ := stC X693 hx hZ e694 Ar701 (j := (2 : Int32)) hin707 (g := (mkF m 137 #[.val (.ref b), .val (.int nv)] [(.int b9), (.int (2 : Int32)), (.ref a649), (.ref a649), (.ref a627), (.ref a627)])) rfl rfl (hb hby own_h346)
      have N714 := Fr.snoc X710 N697 G652
      have K715 : Keep h641 h709 [a649] := K698.wr W712 own_m0
      have V716 := Arv.set Ar701 q702 S703 Ng704 H705 Gf706 (v := (.int (nar .char b9))) (fits_nar_char _) W712 2 rfl (own_lt rfl)
      have k50 : own_J p e below T708 m 138 #[.val (.ref b), .val (.int nv)] [(.ref a649), (.ref a627), (.ref a627)] B_ := fun t_ hh => k49 t_ (st713 t_ hh)
      clear k49 st713 X693 e694 cl700 Ar701 q702 S703 Ng704 H705 Gf706 hin707 W712 K698 V699 N697
      have k51 : own_J p e below T708 m 144 #[.val (.ref b), .val (.int nv)] [(.int b10), (.int (3 : Int32)), (.ref a649), (.ref a649), (.ref a627), (.ref a627)] B_ := fun t_ hh => k50 t_ (by
       refine XS.dup X710.here hx rfl (hb hby own_h347) rfl rfl ?_
       refine XS.iconst X710.here hx rfl (hb hby own_h348) ?_
       refine XS.aloadN X710.here hx rfl (hb hby own_h349) rfl rfl ?_
       refine XS.bipush X710.here hx rfl (hb hby own_h350) ?_
       refine own_caload X710 hx hZ e711 (Arv.keep F655 K715 (ninS ne682 nin0)) (j := (10 : Int32)) (v := (.int b10)) (by decide) rfl (g := (mkF m 143 #[.val (.ref b), .val (.int nv)] [(.int (10 : Int32)), (.ref b), (.int (3 : Int32)), (.ref a649), (.ref a649), (.ref a627), (.ref a627)])) rfl rfl (hb hby own_h351) _ ?_
       exact hh)
      clear k50
      obtain ⟨cl717, Ar718, q719, S720, Ng721, H722, Gf723⟩ := id V716
      have hin724 := inb_of (j := (3 : Int32)) S720 (by decide)
      obtain ⟨T725, h726, X727, e728, W729, st730⟩ := stC X710 hx hZ e711 Ar718 (j := (3 : Int32)) hin724 (g := (mkF m 144 #[.val (.ref b), .val (.int nv)] [(.int b10), (.int (3 : Int32)), (.ref a649), (.ref a649), (.ref a627), (.ref a627)])) rfl rfl (hb hby own_h352)
      have N731 := Fr.snoc X727 N714 G652
      have K732 : Keep h641 h726 [a649] := K715.wr W729 own_m0
      have V733 := Arv.set Ar718 q719 S720 Ng721 H722 Gf723 (v := (.int (nar .char b10))) (fits_nar_char _) W729 3 rfl (own_lt rfl)
      have k52 : own_J p e below T725 m 145 #[.val (.ref b), .val (.int nv)] [(.ref a649), (.ref a627), (.ref a627)] B_ := fun t_ hh => k51 t_ (st730 t_ hh)
      clear k51 st730 X710 e711 cl717 Ar718 q719 S720 Ng721 H722 Gf723 hin724 W729 K715 V716 N714
      have V734 : Arv Z h726 a649 kA642 .char (4 : Int32) [(.int (nar .char b7)), (.int (nar .char b8)), (.int (nar .char b9)), (.int (nar .char b10))] (.int (0 : Int32)) := V733
      have F735 := F655.keep K732 (ninS ne682 nin0)
      have F736 := F656.keep K732
      have ne738 : a627 ≠ a649 := by rw [g650]; exact Nat.ne_of_lt A623.lt
      have F737 := F657.keep K732 (ninS ne738 nin0)
      have F739 := F658.keep K732 (ninS ne738 nin0)
      have Z740 : n0 ≤ h726.size := Nat.le_trans Z659 K732.1
      have hk741 := Nat.le_trans hk653 K732.1
      have Sf742 := Safe.keep K732 (allS Sf654 all0) Cr663.1 Sf662
      have Sf743 := Safe.keep K732 (allS Sf654 all0) Cr663.1 Sf654
      have Cr744 := Cr663.trans (CHr.keep K732 (allS Sf654 all0) Cr663.1)
      have O745 := O660.keep K732 (allS G652 all0)
      have P746 : Keep h0 h726 [] := P661.trans K732 (allS (P := fun x => x ∈ [] ∨ h0.size ≤ x) (Or.inr H0651) all0)
      have F747 : Arv Z h726 a649 kA642 .char (Int32.ofNat 4) (([b7, b8, b9, b10] : List Int32).map Value.int) (.int 0) := by have q := V734; simp only [e7_, e8_, e9_, e10_] at q; exact q
      have hcs748 : own_chs ([b7, b8, b9, b10] : List Int32) := own_chs_drop (cs := [b0, b1, b2, b3, b4, b5, b6, b7, b8, b9, b10]) 7 hbc
      by_cases hA : ∀ c ∈ ([b7, b8, b9, b10] : List Int32), ¬ (255 : Int32) < c
      ·
       obtain ⟨_, _, ⟨T749, L750, k_751, n_752⟩, -, X753, ⟨Lc754, hQ755, l_756, y_757, z_758⟩, st759⟩ := X727.specialBack hx (y := (⟨"java/lang/String", "<init>", "([C)V"⟩ : MethodName)) rfl hown (mvT hZ (wT hw 26 rfl)) (mvT hZ (wT hw 27 rfl)) (mvT hZ (wT hw 28 rfl)) (by decide) (StrChars.Road.backV (W := 1) hZ (fun d hd => hw d (own_sub_words d hd)) (kI := 4) (wT hw 24 rfl) (cs := ([b7, b8, b9, b10] : List Int32)) (n0 := n0) G630 Z740 F736 F739 F737 F747 (Sta.ext O745.2 sC) hc rfl rfl (own_lt rfl) (own_l rfl) (own_b8s hcs748 hA) rfl (by decide) (by decide)) (g := (mkF m 145 #[.val (.ref b), .val (.int nv)] [(.ref a649), (.ref a627), (.ref a627)])) rfl (by rw [hml]; rfl) (Steps.refl _) (a := a627) (argsL := [(.ref a649)]) (rest := [(.ref a627)]) (lenOf own_h257 rfl) rfl (by show 2 * 0 + _ ≤ _; exact Nat.le_of_eq rfl) (hb hby own_h353) (fun _ _ => ⟨rfl, e728, own_l rfl, own_l rfl⟩)
       dsimp only [Pt.U, Pt.locs, Pt.cells, Pt.slots] at X753 l_756 y_757 z_758 st759 hQ755
       replace l_756 := l_756.symm
       subst l_756 y_757 z_758
       obtain ⟨rfl, N760, K761, E762, F763, t764, kb765, G766, G767, G768, F769, F770⟩ := hQ755
       have N771 := Fr.app N731 N760
       have ne773 : b ≠ a627 := by rw [g628]; exact Nat.ne_of_lt Fb.lt
       have F772 := F735.keep K761 (ninS ne773 nin0)
       have F774 := F736.keep K761
       have F775 := F747.keep K761 (ninS (Ne.symm ne738) nin0)
       have Z776 : n0 ≤ T749.heap.size := Nat.le_trans Z740 K761.1
       have hk777 := Nat.le_trans hk741 K761.1
       have Sf778 := Safe.keep K761 (allS Sf742 all0) Cr744.1 Sf742
       have Sf779 := Safe.keep K761 (allS Sf742 all0) Cr744.1 Sf743
       have Cr780 := Cr744.trans (CHr.keep K761 (allS Sf742 all0) Cr744.1)
       have O781 := O745.keep K761 (allS G630 all0)
       have P782 : Keep h0 T749.heap [] := P746.trans K761 (allS (P := fun x => x ∈ [] ∨ h0.size ≤ x) (Or.inr H0629) all0)
       have S783 : own_Str Z T749.heap a627 t764 kb765 ([b7, b8, b9, b10] : List Int32) := ⟨E762, F769, F763, F770⟩
       have e784 : T749.heap = T749.heap := rfl
       have k53 : own_J p e below T749 m 148 #[.val (.ref b), .val (.int nv)] [(.ref a627)] B_ := fun t_ hh => k52 t_ (st759.trans hh)
       clear k52 st759 X727 e728
       obtain ⟨fs, hr, hrun, hended, hEnd⟩ := X753.leaveW hS0 (by rw [e784]; exact hk777) (v := some (.ref a627)) (fun h => by rw [Bd.returns] at h; cases h)
       refine ⟨_, _, (own_from hB_ (k53 _ (retOut X753 hx (t := .object "java/lang/String") Bd.returns rfl (Or.inr (Or.inr (Or.inr (Or.inr ⟨rfl, rfl, rfl⟩)))) (hb hby own_h354) hr))), hrun, hended, _, _, rfl, ?_, ?_, hEnd.1, hEnd.2.1, hEnd.2.2.1, hEnd.2.2.2.mono (own_l rfl) (own_l rfl)⟩
       rotate_left
       · show CHr Z own_EL s.vm s.heap T749.vm T749.heap
         rw [hh, e784]
         exact Cr780.trans (CHv.at X753 hZ (own_EW hw) Cr780.1)
       show Q_mk Z nv b0 b1 b2 b3 b4 b5 b6 b7 b8 b9 b10 h0 n0 _ T749.heap _
       rw [e784]
       exact ⟨a627, rfl, N771, P782, G630, E762, by rw [c107]; exact (Or.inl ⟨t764, kb765, S783, own_b8s hcs748 hA⟩)⟩
      ·
       obtain ⟨k, hk, hkb, hlo⟩ := own_first _ hA
       obtain ⟨_, _, ⟨T785, L786, k_787, n_788⟩, -, X789, ⟨Lc790, hQ791, l_792, y_793, z_794⟩, st795⟩ := X727.specialBack hx (y := (⟨"java/lang/String", "<init>", "([C)V"⟩ : MethodName)) rfl hown (mvT hZ (wT hw 26 rfl)) (mvT hZ (wT hw 27 rfl)) (mvT hZ (wT hw 28 rfl)) (by decide) (backOf (W := 1) (rmI2 l Z a0 hw [] a627 a649 kA642 ([b7, b8, b9, b10] : List Int32) k h726 n0 Z740 F736 F739 F737 G630 F747 (own_l rfl) hcs748 hk hkb hlo O745 (Ne.symm ne738) sA sH sL ci sC hc) hZ (wT hw 28 rfl) (wT hw 25 rfl) (by decide) (by decide)) (g := (mkF m 145 #[.val (.ref b), .val (.int nv)] [(.ref a649), (.ref a627), (.ref a627)])) rfl (by rw [hml]; rfl) (Steps.refl _) (a := a627) (argsL := [(.ref a649)]) (rest := [(.ref a627)]) (lenOf own_h257 rfl) rfl (by show 2 * 0 + _ ≤ _; exact Nat.le_of_eq rfl) (hb hby own_h353) (fun _ _ => ⟨rfl, e728, own_l rfl, own_l rfl⟩)
       dsimp only [Pt.U, Pt.locs, Pt.cells, Pt.slots] at X789 l_792 y_793 z_794 st795 hQ791
       replace l_792 := l_792.symm
       subst l_792 y_793 z_794
       obtain ⟨t797, kt798, ds799, rfl, N796, K807, F800, F801, F802, F803, F804, F805, F806, -⟩ := hQ791
       have N808 := Fr.app N731 N796
       have H0809 : h0.size ≤ t797 := Nat.le_trans P746.1 F806
       have ne811 : b ≠ a627 := by rw [g628]; exact Nat.ne_of_lt Fb.lt
       have F810 := F735.keep K807 (ninS ne811 nin0)
       have F812 := F736.keep K807
       have F813 := F747.keep K807 (ninS (Ne.symm ne738) nin0)
       have Z814 : n0 ≤ T785.heap.size := Nat.le_trans Z740 K807.1
       have hk815 := Nat.le_trans hk741 K807.1
       have Sf816 := Safe.keep K807 (allS Sf742 all0) Cr744.1 Sf742
       have Sf817 := Safe.keep K807 (allS Sf742 all0) Cr744.1 Sf743
       have Cr818 := Cr744.trans (CHr.keep K807 (allS Sf742 all0) Cr744.1)
       have O819 := O745.keep K807 (allS G630 all0)
       have P820 : Keep h0 T785.heap [] := P746.trans K807 (allS (P := fun x => x ∈ [] ∨ h0.size ≤ x) (Or.inr H0629) all0)
       have e821 : T785.heap = T785.heap := rfl
       have k54 : own_J p e below T785 m 148 #[.val (.ref b), .val (.int nv)] [(.ref a627)] B_ := fun t_ hh => k52 t_ (st795.trans hh)
       clear k52 st795 X727 e728
       obtain ⟨fs, hr, hrun, hended, hEnd⟩ := X789.leaveW hS0 (by rw [e821]; exact hk815) (v := some (.ref a627)) (fun h => by rw [Bd.returns] at h; cases h)
       refine ⟨_, _, (own_from hB_ (k54 _ (retOut X789 hx (t := .object "java/lang/String") Bd.returns rfl (Or.inr (Or.inr (Or.inr (Or.inr ⟨rfl, rfl, rfl⟩)))) (hb hby own_h354) hr))), hrun, hended, _, _, rfl, ?_, ?_, hEnd.1, hEnd.2.1, hEnd.2.2.1, hEnd.2.2.2.mono (own_l rfl) (own_l rfl)⟩
       rotate_left
       · show CHr Z own_EL s.vm s.heap T785.vm T785.heap
         rw [hh, e821]
         exact Cr818.trans (CHv.at X789 hZ (own_EW hw) Cr818.1)
       show Q_mk Z nv b0 b1 b2 b3 b4 b5 b6 b7 b8 b9 b10 h0 n0 _ T785.heap _
       rw [e821]
       exact ⟨a627, rfl, N808, P820, G630, F800, by rw [c107]; exact (Or.inr ⟨t797, kt798, ds799, F800, F801, F802, F803, F804⟩)⟩
     ·
      have k55 : own_J p e below s₁ m 151 #[.val (.ref b), .val (.int nv)] [(.int (5 : Int32)), (.int nv)] B_ := fun t_ hh => k40 t_ (by
       refine XS.icmpYes X0.here hx rfl (pc0 := 107) (pc' := 149) rfl (hb hby own_h324) rfl (own_icT_ne c107) (by decide) (by decide) ?_
       refine XS.iloadN X0.here hx rfl (hb hby own_h355) rfl ?_
       refine XS.iconst X0.here hx rfl (hb hby own_h356) ?_
       exact hh)
      clear k40
      by_cases c151 : nv = (5 : Int32)
      ·
       have k56 : own_J p e below s₁ m 154 #[.val (.ref b), .val (.int nv)] [] B_ := fun t_ hh => k55 t_ (by
        refine XS.icmpNo X0.here hx rfl (hb hby own_h357) rfl (own_icF_ne c151) ?_
        exact hh)
       clear k55
       obtain ⟨T822, h823, X824, e825, E826, A827, D828, U830, st829⟩ := newO X0 hx hZ hown (wT hw 23 rfl) (wT hw 24 rfl) (wT hw 25 rfl) e0 (g := (mkF m 154 #[.val (.ref b), .val (.int nv)] [])) rfl (hb hby own_h358) (by decide) (by decide)
       obtain ⟨a831, g832⟩ : ∃ z, z = h0.size := ⟨_, rfl⟩
       rw [← g832] at A827 D828 U830 st829
       have H0833 : h0.size ≤ a831 := Nat.le_trans K0.1 (Nat.le_of_eq g832.symm)
       have G834 : n0 ≤ a831 := Nat.le_trans Z0 (Nat.le_of_eq g832.symm)
       have hk835 := Nat.le_trans hk0 E826.1
       have Sf836 := Safe.ext E826 Cr0.1 (Safe.new (x := a831) (Nat.le_of_eq g832.symm))
       have F837 := Fb.ext E826
       have Z838 : n0 ≤ h823.size := Nat.le_trans Z0 E826.1
       have O839 := O0.ext E826
       have P840 : Keep h0 h823 [] := K0.ext E826
       have Cr841 := Cr0.trans (CHr.ext E826 Cr0.1)
       have F842 : Fld Z h823 a831 "java/lang/String" "coder" "B" (.int (0 : Int32)) := D828 (Or.inr (wT hw 49 rfl)) (ty := .byte) (by decide)
       have F843 : Fld Z h823 a831 "java/lang/String" "value" "[B" .null := D828 (Or.inr (wT hw 51 rfl)) (ty := .array .byte) (by decide)
       have k57 : own_J p e below T822 m 157 #[.val (.ref b), .val (.int nv)] [(.ref a831)] B_ := fun t_ hh => k56 t_ (st829 t_ hh)
       clear k56 st829
       have k58 : own_J p e below T822 m 159 #[.val (.ref b), .val (.int nv)] [(.int (5 : Int32)), (.ref a831), (.ref a831)] B_ := fun t_ hh => k57 t_ (by
        refine XS.dup X824.here hx rfl (hb hby own_h359) rfl rfl ?_
        refine XS.iconst X824.here hx rfl (hb hby own_h360) ?_
        exact hh)
       clear k57
       obtain ⟨T844, h845, kA846, X847, e848, E849, A850, st852⟩ := newP X824 hx hZ (wT hw 15 rfl) e825 (g := (mkF m 159 #[.val (.ref b), .val (.int nv)] [(.int (5 : Int32)), (.ref a831), (.ref a831)])) rfl (hb hby own_h361) rfl (by decide) (cap := 5) (by decide) (by decide) (by decide) (by decide)
       obtain ⟨a853, g854⟩ : ∃ z, z = h823.size := ⟨_, rfl⟩
       rw [← g854] at A850 st852
       have H0855 : h0.size ≤ a853 := Nat.le_trans P840.1 (Nat.le_of_eq g854.symm)
       have G856 : n0 ≤ a853 := Nat.le_trans Z838 (Nat.le_of_eq g854.symm)
       have hk857 := Nat.le_trans hk835 E849.1
       have Sf858 := Safe.ext E849 Cr841.1 (Safe.new (x := a853) (Nat.le_of_eq g854.symm))
       have F859 := F837.ext E849
       have F860 := Exa.ext (h' := h845) E849 A827
       have F861 := Fld.ext (h' := h845) E849 F842
       have F862 := Fld.ext (h' := h845) E849 F843
       have Z863 : n0 ≤ h845.size := Nat.le_trans Z838 E849.1
       have O864 := O839.ext E849
       have P865 : Keep h0 h845 [] := P840.ext E849
       have Sf866 := Safe.ext E849 Cr841.1 Sf836
       have Cr867 := Cr841.trans (CHr.ext E849 Cr841.1)
       have V868 : Arv Z h845 a853 kA846 .char (5 : Int32) [(.int (0 : Int32)), (.int (0 : Int32)), (.int (0 : Int32)), (.int (0 : Int32)), (.int (0 : Int32))] (.int (0 : Int32)) := Arv.pad (Arv.new A850 (by decide)) (pad_rep [] (.int (0 : Int32)) 5)
       have k59 : own_J p e below T844 m 161 #[.val (.ref b), .val (.int nv)] [(.ref a853), (.ref a831), (.ref a831)] B_ := fun t_ hh => k58 t_ (st852 t_ hh)
       clear k58 st852 X824 e825
       have k60 : own_J p e below T844 m 167 #[.val (.ref b), .val (.int nv)] [(.int b6), (.int (0 : Int32)), (.ref a853), (.ref a853), (.ref a831), (.ref a831)] B_ := fun t_ hh => k59 t_ (by
        refine XS.dup X847.here hx rfl (hb hby own_h362) rfl rfl ?_
        refine XS.iconst X847.here hx rfl (hb hby own_h363) ?_
        refine XS.aloadN X847.here hx rfl (hb hby own_h364) rfl rfl ?_
        refine XS.bipush X847.here hx rfl (hb hby own_h365) ?_
        refine own_caload X847 hx hZ e848 F859 (j := (6 : Int32)) (v := (.int b6)) (by decide) rfl (g := (mkF m 166 #[.val (.ref b), .val (.int nv)] [(.int (6 : Int32)), (.ref b), (.int (0 : Int32)), (.ref a853), (.ref a853), (.ref a831), (.ref a831)])) rfl rfl (hb hby own_h366) _ ?_
        exact hh)
       clear k59
       obtain ⟨cl869, Ar870, q871, S872, Ng873, H874, Gf875⟩ := id V868
       have hin876 := inb_of (j := (0 : Int32)) S872 (by decide)
       obtain ⟨T877, h878, X879, e880, W881, st882⟩ := stC X847 hx hZ e848 Ar870 (j := (0 : Int32)) hin876 (g := (mkF m 167 #[.val (.ref b), .val (.int nv)] [(.int b6), (.int (0 : Int32)), (.ref a853), (.ref a853), (.ref a831), (.ref a831)])) rfl rfl (hb hby own_h367)
       have N883 := Fr.snoc X879 N0 G856
       have K884 : Keep h845 h878 [a853] := Keep.of_wr W881
       have V885 := Arv.set Ar870 q871 S872 Ng873 H874 Gf875 (v := (.int (nar .char b6))) (fits_nar_char _) W881 0 rfl (own_lt rfl)
       have k61 : own_J p e below T877 m 168 #[.val (.ref b), .val (.int nv)] [(.ref a853), (.ref a831), (.ref a831)] B_ := fun t_ hh => k60 t_ (st882 t_ hh)
       clear k60 st882 X847 e848 cl869 Ar870 q871 S872 Ng873 H874 Gf875 hin876 W881 V868
       have ne886 : b ≠ a853 := by rw [g854]; exact Nat.ne_of_lt F837.lt
       have k62 : own_J p e below T877 m 174 #[.val (.ref b), .val (.int nv)] [(.int b7), (.int (1 : Int32)), (.ref a853), (.ref a853), (.ref a831), (.ref a831)] B_ := fun t_ hh => k61 t_ (by
        refine XS.dup X879.here hx rfl (hb hby own_h368) rfl rfl ?_
        refine XS.iconst X879.here hx rfl (hb hby own_h369) ?_
        refine XS.aloadN X879.here hx rfl (hb hby own_h370) rfl rfl ?_
        refine XS.bipush X879.here hx rfl (hb hby own_h371) ?_
        refine own_caload X879 hx hZ e880 (Arv.keep F859 K884 (ninS ne886 nin0)) (j := (7 : Int32)) (v := (.int b7)) (by decide) rfl (g := (mkF m 173 #[.val (.ref b), .val (.int nv)] [(.int (7 : Int32)), (.ref b), (.int (1 : Int32)), (.ref a853), (.ref a853), (.ref a831), (.ref a831)])) rfl rfl (hb hby own_h372) _ ?_
        exact hh)
       clear k61
       obtain ⟨cl887, Ar888, q889, S890, Ng891, H892, Gf893⟩ := id V885
       have hin894 := inb_of (j := (1 : Int32)) S890 (by decide)
       obtain ⟨T895, h896, X897, e898, W899, st900⟩ := stC X879 hx hZ e880 Ar888 (j := (1 : Int32)) hin894 (g := (mkF m 174 #[.val (.ref b), .val (.int nv)] [(.int b7), (.int (1 : Int32)), (.ref a853), (.ref a853), (.ref a831), (.ref a831)])) rfl rfl (hb hby own_h373)
       have N901 := Fr.snoc X897 N883 G856
       have K902 : Keep h845 h896 [a853] := K884.wr W899 own_m0
       have V903 := Arv.set Ar888 q889 S890 Ng891 H892 Gf893 (v := (.int (nar .char b7))) (fits_nar_char _) W899 1 rfl (own_lt rfl)
       have k63 : own_J p e below T895 m 175 #[.val (.ref b), .val (.int nv)] [(.ref a853), (.ref a831), (.ref a831)] B_ := fun t_ hh => k62 t_ (st900 t_ hh)
       clear k62 st900 X879 e880 cl887 Ar888 q889 S890 Ng891 H892 Gf893 hin894 W899 K884 V885 N883
       have k64 : own_J p e below T895 m 181 #[.val (.ref b), .val (.int nv)] [(.int b8), (.int (2 : Int32)), (.ref a853), (.ref a853), (.ref a831), (.ref a831)] B_ := fun t_ hh => k63 t_ (by
        refine XS.dup X897.here hx rfl (hb hby own_h374) rfl rfl ?_
        refine XS.iconst X897.here hx rfl (hb hby own_h375) ?_
        refine XS.aloadN X897.here hx rfl (hb hby own_h376) rfl rfl ?_
        refine XS.bipush X897.here hx rfl (hb hby own_h377) ?_
        refine own_caload X897 hx hZ e898 (Arv.keep F859 K902 (ninS ne886 nin0)) (j := (8 : Int32)) (v := (.int b8)) (by decide) rfl (g := (mkF m 180 #[.val (.ref b), .val (.int nv)] [(.int (8 : Int32)), (.ref b), (.int (2 : Int32)), (.ref a853), (.ref a853), (.ref a831), (.ref a831)])) rfl rfl (hb hby own_h378) _ ?_
        exact hh)
       clear k63
       obtain ⟨cl904, Ar905, q906, S907, Ng908, H909, Gf910⟩ := id V903
       have hin911 := inb_of (j := (2 : Int32)) S907 (by decide)
       obtain ⟨T912, h913, X914, e915, W916, st917⟩ := stC X897 hx hZ e898 Ar905 (j := (2 : Int32)) hin911 (g := (mkF m 181 #[.val (.ref b), .val (.int nv)] [(.int b8), (.int (2 : Int32)), (.ref a853), (.ref a853), (.ref a831), (.ref a831)])) rfl rfl (hb hby own_h379)
       have N918 := Fr.snoc X914 N901 G856
       have K919 : Keep h845 h913 [a853] := K902.wr W916 own_m0
       have V920 := Arv.set Ar905 q906 S907 Ng908 H909 Gf910 (v := (.int (nar .char b8))) (fits_nar_char _) W916 2 rfl (own_lt rfl)
       have k65 : own_J p e below T912 m 182 #[.val (.ref b), .val (.int nv)] [(.ref a853), (.ref a831), (.ref a831)] B_ := fun t_ hh => k64 t_ (st917 t_ hh)
       clear k64 st917 X897 e898 cl904 Ar905 q906 S907 Ng908 H909 Gf910 hin911 W916 K902 V903 N901
       have k66 : own_J p e below T912 m 188 #[.val (.ref b), .val (.int nv)] [(.int b9), (.int (3 : Int32)), (.ref a853), (.ref a853), (.ref a831), (.ref a831)] B_ := fun t_ hh => k65 t_ (by
        refine XS.dup X914.here hx rfl (hb hby own_h380) rfl rfl ?_
        refine XS.iconst X914.here hx rfl (hb hby own_h381) ?_
        refine XS.aloadN X914.here hx rfl (hb hby own_h382) rfl rfl ?_
        refine XS.bipush X914.here hx rfl (hb hby own_h383) ?_
        refine own_caload X914 hx hZ e915 (Arv.keep F859 K919 (ninS ne886 nin0)) (j := (9 : Int32)) (v := (.int b9)) (by decide) rfl (g := (mkF m 187 #[.val (.ref b), .val (.int nv)] [(.int (9 : Int32)), (.ref b), (.int (3 : Int32)), (.ref a853), (.ref a853), (.ref a831), (.ref a831)])) rfl rfl (hb hby own_h384) _ ?_
        exact hh)
       clear k65
       obtain ⟨cl921, Ar922, q923, S924, Ng925, H926, Gf927⟩ := id V920
       have hin928 := inb_of (j := (3 : Int32)) S924 (by decide)
       obtain ⟨T929, h930, X931, e932, W933, st934⟩ := stC X914 hx hZ e915 Ar922 (j := (3 : Int32)) hin928 (g := (mkF m 188 #[.val (.ref b), .val (.int nv)] [(.int b9), (.int (3 : Int32)), (.ref a853), (.ref a853), (.ref a831), (.ref a831)])) rfl rfl (hb hby own_h385)
       have N935 := Fr.snoc X931 N918 G856
       have K936 : Keep h845 h930 [a853] := K919.wr W933 own_m0
       have V937 := Arv.set Ar922 q923 S924 Ng925 H926 Gf927 (v := (.int (nar .char b9))) (fits_nar_char _) W933 3 rfl (own_lt rfl)
       have k67 : own_J p e below T929 m 189 #[.val (.ref b), .val (.int nv)] [(.ref a853), (.ref a831), (.ref a831)] B_ := fun t_ hh => k66 t_ (st934 t_ hh)
       clear k66 st934 X914 e915 cl921 Ar922 q923 S924 Ng925 H926 Gf927 hin928 W933 K919 V920 N918
       have k68 : own_J p e below T929 m 195 #[.val (.ref b), .val (.int nv)] [(.int b10), (.int (4 : Int32)), (.ref a853), (.ref a853), (.ref a831), (.ref a831)] B_ := fun t_ hh => k67 t_ (by
        refine XS.dup X931.here hx rfl (hb hby own_h386) rfl rfl ?_
        refine XS.iconst X931.here hx rfl (hb hby own_h387) ?_
        refine XS.aloadN X931.here hx rfl (hb hby own_h388) rfl rfl ?_
        refine XS.bipush X931.here hx rfl (hb hby own_h389) ?_
        refine own_caload X931 hx hZ e932 (Arv.keep F859 K936 (ninS ne886 nin0)) (j := (10 : Int32)) (v := (.int b10)) (by decide) rfl (g := (mkF m 194 #[.val (.ref b), .val (.int nv)] [(.int (10 : Int32)), (.ref b), (.int (4 : Int32)), (.ref a853), (.ref a853), (.ref a831), (.ref a831)])) rfl rfl (hb hby own_h390) _ ?_
        exact hh)
       clear k67
       obtain ⟨cl938, Ar939, q940, S941, Ng942, H943, Gf944⟩ := id V937
       have hin945 := inb_of (j := (4 : Int32)) S941 (by decide)
       obtain ⟨T946, h947, X948, e949, W950, st951⟩ := stC X931 hx hZ e932 Ar939 (j := (4 : Int32)) hin945 (g := (mkF m 195 #[.val (.ref b), .val (.int nv)] [(.int b10), (.int (4 : Int32)), (.ref a853), (.ref a853), (.ref a831), (.ref a831)])) rfl rfl (hb hby own_h391)
       have N952 := Fr.snoc X948 N935 G856
       have K953 : Keep h845 h947 [a853] := K936.wr W950 own_m0
       have V954 := Arv.set Ar939 q940 S941 Ng942 H943 Gf944 (v := (.int (nar .char b10))) (fits_nar_char _) W950 4 rfl (own_lt rfl)
       have k69 : own_J p e below T946 m 196 #[.val (.ref b), .val (.int nv)] [(.ref a853), (.ref a831), (.ref a831)] B_ := fun t_ hh => k68 t_ (st951 t_ hh)
       clear k68 st951 X931 e932 cl938 Ar939 q940 S941 Ng942 H943 Gf944 hin945 W950 K936 V937 N935
       have V955 : Arv Z h947 a853 kA846 .char (5 : Int32) [(.int (nar .char b6)), (.int (nar .char b7)), (.int (nar .char b8)), (.int (nar .char b9)), (.int (nar .char b10))] (.int (0 : Int32)) := V954
       have F956 := F859.keep K953 (ninS ne886 nin0)
       have F957 := F860.keep K953
       have ne959 : a831 ≠ a853 := by rw [g854]; exact Nat.ne_of_lt A827.lt
       have F958 := F861.keep K953 (ninS ne959 nin0)
       have F960 := F862.keep K953 (ninS ne959 nin0)
       have Z961 : n0 ≤ h947.size := Nat.le_trans Z863 K953.1
       have hk962 := Nat.le_trans hk857 K953.1
       have Sf963 := Safe.keep K953 (allS Sf858 all0) Cr867.1 Sf866
       have Sf964 := Safe.keep K953 (allS Sf858 all0) Cr867.1 Sf858
       have Cr965 := Cr867.trans (CHr.keep K953 (allS Sf858 all0) Cr867.1)
       have O966 := O864.keep K953 (allS G856 all0)
       have P967 : Keep h0 h947 [] := P865.trans K953 (allS (P := fun x => x ∈ [] ∨ h0.size ≤ x) (Or.inr H0855) all0)
       have F968 : Arv Z h947 a853 kA846 .char (Int32.ofNat 5) (([b6, b7, b8, b9, b10] : List Int32).map Value.int) (.int 0) := by have q := V955; simp only [e6_, e7_, e8_, e9_, e10_] at q; exact q
       have hcs969 : own_chs ([b6, b7, b8, b9, b10] : List Int32) := own_chs_drop (cs := [b0, b1, b2, b3, b4, b5, b6, b7, b8, b9, b10]) 6 hbc
       by_cases hA : ∀ c ∈ ([b6, b7, b8, b9, b10] : List Int32), ¬ (255 : Int32) < c
       ·
        obtain ⟨_, _, ⟨T970, L971, k_972, n_973⟩, -, X974, ⟨Lc975, hQ976, l_977, y_978, z_979⟩, st980⟩ := X948.specialBack hx (y := (⟨"java/lang/String", "<init>", "([C)V"⟩ : MethodName)) rfl hown (mvT hZ (wT hw 26 rfl)) (mvT hZ (wT hw 27 rfl)) (mvT hZ (wT hw 28 rfl)) (by decide) (StrChars.Road.backV (W := 1) hZ (fun d hd => hw d (own_sub_words d hd)) (kI := 4) (wT hw 24 rfl) (cs := ([b6, b7, b8, b9, b10] : List Int32)) (n0 := n0) G834 Z961 F957 F960 F958 F968 (Sta.ext O966.2 sC) hc rfl rfl (own_lt rfl) (own_l rfl) (own_b8s hcs969 hA) rfl (by decide) (by decide)) (g := (mkF m 196 #[.val (.ref b), .val (.int nv)] [(.ref a853), (.ref a831), (.ref a831)])) rfl (by rw [hml]; rfl) (Steps.refl _) (a := a831) (argsL := [(.ref a853)]) (rest := [(.ref a831)]) (lenOf own_h257 rfl) rfl (by show 2 * 0 + _ ≤ _; exact Nat.le_of_eq rfl) (hb hby own_h392) (fun _ _ => ⟨rfl, e949, own_l rfl, own_l rfl⟩)
        dsimp only [Pt.U, Pt.locs, Pt.cells, Pt.slots] at X974 l_977 y_978 z_979 st980 hQ976
        replace l_977 := l_977.symm
        subst l_977 y_978 z_979
        obtain ⟨rfl, N981, K982, E983, F984, t985, kb986, G987, G988, G989, F990, F991⟩ := hQ976
        have N992 := Fr.app N952 N981
        have ne994 : b ≠ a831 := by rw [g832]; exact Nat.ne_of_lt Fb.lt
        have F993 := F956.keep K982 (ninS ne994 nin0)
        have F995 := F957.keep K982
        have F996 := F968.keep K982 (ninS (Ne.symm ne959) nin0)
        have Z997 : n0 ≤ T970.heap.size := Nat.le_trans Z961 K982.1
        have hk998 := Nat.le_trans hk962 K982.1
        have Sf999 := Safe.keep K982 (allS Sf963 all0) Cr965.1 Sf963
        have Sf1000 := Safe.keep K982 (allS Sf963 all0) Cr965.1 Sf964
        have Cr1001 := Cr965.trans (CHr.keep K982 (allS Sf963 all0) Cr965.1)
        have O1002 := O966.keep K982 (allS G834 all0)
        have P1003 : Keep h0 T970.heap [] := P967.trans K982 (allS (P := fun x => x ∈ [] ∨ h0.size ≤ x) (Or.inr H0833) all0)
        have S1004 : own_Str Z T970.heap a831 t985 kb986 ([b6, b7, b8, b9, b10] : List Int32) := ⟨E983, F990, F984, F991⟩
        have e1005 : T970.heap = T970.heap := rfl
        have k70 : own_J p e below T970 m 199 #[.val (.ref b), .val (.int nv)] [(.ref a831)] B_ := fun t_ hh => k69 t_ (st980.trans hh)
        clear k69 st980 X948 e949
        obtain ⟨fs, hr, hrun, hended, hEnd⟩ := X974.leaveW hS0 (by rw [e1005]; exact hk998) (v := some (.ref a831)) (fun h => by rw [Bd.returns] at h; cases h)
        refine ⟨_, _, (own_from hB_ (k70 _ (retOut X974 hx (t := .object "java/lang/String") Bd.returns rfl (Or.inr (Or.inr (Or.inr (Or.inr ⟨rfl, rfl, rfl⟩)))) (hb hby own_h393) hr))), hrun, hended, _, _, rfl, ?_, ?_, hEnd.1, hEnd.2.1, hEnd.2.2.1, hEnd.2.2.2.mono (own_l rfl) (own_l rfl)⟩
        rotate_left
        · show CHr Z own_EL s.vm s.heap T970.vm T970.heap
          rw [hh, e1005]
          exact Cr1001.trans (CHv.at X974 hZ (own_EW hw) Cr1001.1)
        show Q_mk Z nv b0 b1 b2 b3 b4 b5 b6 b7 b8 b9 b10 h0 n0 _ T970.heap _
        rw [e1005]
        exact ⟨a831, rfl, N992, P1003, G834, E983, by rw [c151]; exact (Or.inl ⟨t985, kb986, S1004, own_b8s hcs969 hA⟩)⟩
       ·
        obtain ⟨k, hk, hkb, hlo⟩ := own_first _ hA
        obtain ⟨_, _, ⟨T1006, L1007, k_1008, n_1009⟩, -, X1010, ⟨Lc1011, hQ1012, l_1013, y_1014, z_1015⟩, st1016⟩ := X948.specialBack hx (y := (⟨"java/lang/String", "<init>", "([C)V"⟩ : MethodName)) rfl hown (mvT hZ (wT hw 26 rfl)) (mvT hZ (wT hw 27 rfl)) (mvT hZ (wT hw 28 rfl)) (by decide) (backOf (W := 1) (rmI2 l Z a0 hw [] a831 a853 kA846 ([b6, b7, b8, b9, b10] : List Int32) k h947 n0 Z961 F957 F960 F958 G834 F968 (own_l rfl) hcs969 hk hkb hlo O966 (Ne.symm ne959) sA sH sL ci sC hc) hZ (wT hw 28 rfl) (wT hw 25 rfl) (by decide) (by decide)) (g := (mkF m 196 #[.val (.ref b), .val (.int nv)] [(.ref a853), (.ref a831), (.ref a831)])) rfl (by rw [hml]; rfl) (Steps.refl _) (a := a831) (argsL := [(.ref a853)]) (rest := [(.ref a831)]) (lenOf own_h257 rfl) rfl (by show 2 * 0 + _ ≤ _; exact Nat.le_of_eq rfl) (hb hby own_h392) (fun _ _ => ⟨rfl, e949, own_l rfl, own_l rfl⟩)
        dsimp only [Pt.U, Pt.locs, Pt.cells, Pt.slots] at X1010 l_1013 y_1014 z_1015 st1016 hQ1012
        replace l_1013 := l_1013.symm
        subst l_1013 y_1014 z_1015
        obtain ⟨t1018, kt1019, ds1020, rfl, N1017, K1028, F1021, F1022, F1023, F1024, F1025, F1026, F1027, -⟩ := hQ1012
        have N1029 := Fr.app N952 N1017
        have H01030 : h0.size ≤ t1018 := Nat.le_trans P967.1 F1027
        have ne1032 : b ≠ a831 := by rw [g832]; exact Nat.ne_of_lt Fb.lt
        have F1031 := F956.keep K1028 (ninS ne1032 nin0)
        have F1033 := F957.keep K1028
        have F1034 := F968.keep K1028 (ninS (Ne.symm ne959) nin0)
        have Z1035 : n0 ≤ T1006.heap.size := Nat.le_trans Z961 K1028.1
        have hk1036 := Nat.le_trans hk962 K1028.1
        have Sf1037 := Safe.keep K1028 (allS Sf963 all0) Cr965.1 Sf963
        have Sf1038 := Safe.keep K1028 (allS Sf963 all0) Cr965.1 Sf964
        have Cr1039 := Cr965.trans (CHr.keep K1028 (allS Sf963 all0) Cr965.1)
        have O1040 := O966.keep K1028 (allS G834 all0)
        have P1041 : Keep h0 T1006.heap [] := P967.trans K1028 (allS (P := fun x => x ∈ [] ∨ h0.size ≤ x) (Or.inr H0833) all0)
        have e1042 : T1006.heap = T1006.heap := rfl
        have k71 : own_J p e below T1006 m 199 #[.val (.ref b), .val (.int nv)] [(.ref a831)] B_ := fun t_ hh => k69 t_ (st1016.trans hh)
        clear k69 st1016 X948 e949
        obtain ⟨fs, hr, hrun, hended, hEnd⟩ := X1010.leaveW hS0 (by rw [e1042]; exact hk1036) (v := some (.ref a831)) (fun h => by rw [Bd.returns] at h; cases h)
        refine ⟨_, _, (own_from hB_ (k71 _ (retOut X1010 hx (t := .object "java/lang/String") Bd.returns rfl (Or.inr (Or.inr (Or.inr (Or.inr ⟨rfl, rfl, rfl⟩)))) (hb hby own_h393) hr))), hrun, hended, _, _, rfl, ?_, ?_, hEnd.1, hEnd.2.1, hEnd.2.2.1, hEnd.2.2.2.mono (own_l rfl) (own_l rfl)⟩
        rotate_left
        · show CHr Z own_EL s.vm s.heap T1006.vm T1006.heap
          rw [hh, e1042]
          exact Cr1039.trans (CHv.at X1010 hZ (own_EW hw) Cr1039.1)
        show Q_mk Z nv b0 b1 b2 b3 b4 b5 b6 b7 b8 b9 b10 h0 n0 _ T1006.heap _
        rw [e1042]
        exact ⟨a831, rfl, N1029, P1041, G834, F1021, by rw [c151]; exact (Or.inr ⟨t1018, kt1019, ds1020, F1021, F1022, F1023, F1024, F1025⟩)⟩
      ·
       have k72 : own_J p e below s₁ m 203 #[.val (.ref b), .val (.int nv)] [(.int (6 : Int32)), (.int nv)] B_ := fun t_ hh => k55 t_ (by
        refine XS.icmpYes X0.here hx rfl (pc0 := 151) (pc' := 200) rfl (hb hby own_h357) rfl (own_icT_ne c151) (by decide) (by decide) ?_
        refine XS.iloadN X0.here hx rfl (hb hby own_h394) rfl ?_
        refine XS.bipush X0.here hx rfl (hb hby own_h395) ?_
        exact hh)
       clear k55
       by_cases c203 : nv = (6 : Int32)
       ·
        have k73 : own_J p e below s₁ m 206 #[.val (.ref b), .val (.int nv)] [] B_ := fun t_ hh => k72 t_ (by
         refine XS.icmpNo X0.here hx rfl (hb hby own_h396) rfl (own_icF_ne c203) ?_
         exact hh)
        clear k72
        obtain ⟨T1043, h1044, X1045, e1046, E1047, A1048, D1049, U1051, st1050⟩ := newO X0 hx hZ hown (wT hw 23 rfl) (wT hw 24 rfl) (wT hw 25 rfl) e0 (g := (mkF m 206 #[.val (.ref b), .val (.int nv)] [])) rfl (hb hby own_h397) (by decide) (by decide)
        obtain ⟨a1052, g1053⟩ : ∃ z, z = h0.size := ⟨_, rfl⟩
        rw [← g1053] at A1048 D1049 U1051 st1050
        have H01054 : h0.size ≤ a1052 := Nat.le_trans K0.1 (Nat.le_of_eq g1053.symm)
        have G1055 : n0 ≤ a1052 := Nat.le_trans Z0 (Nat.le_of_eq g1053.symm)
        have hk1056 := Nat.le_trans hk0 E1047.1
        have Sf1057 := Safe.ext E1047 Cr0.1 (Safe.new (x := a1052) (Nat.le_of_eq g1053.symm))
        have F1058 := Fb.ext E1047
        have Z1059 : n0 ≤ h1044.size := Nat.le_trans Z0 E1047.1
        have O1060 := O0.ext E1047
        have P1061 : Keep h0 h1044 [] := K0.ext E1047
        have Cr1062 := Cr0.trans (CHr.ext E1047 Cr0.1)
        have F1063 : Fld Z h1044 a1052 "java/lang/String" "coder" "B" (.int (0 : Int32)) := D1049 (Or.inr (wT hw 49 rfl)) (ty := .byte) (by decide)
        have F1064 : Fld Z h1044 a1052 "java/lang/String" "value" "[B" .null := D1049 (Or.inr (wT hw 51 rfl)) (ty := .array .byte) (by decide)
        have k74 : own_J p e below T1043 m 209 #[.val (.ref b), .val (.int nv)] [(.ref a1052)] B_ := fun t_ hh => k73 t_ (st1050 t_ hh)
        clear k73 st1050
        have k75 : own_J p e below T1043 m 212 #[.val (.ref b), .val (.int nv)] [(.int (6 : Int32)), (.ref a1052), (.ref a1052)] B_ := fun t_ hh => k74 t_ (by
         refine XS.dup X1045.here hx rfl (hb hby own_h398) rfl rfl ?_
         refine XS.bipush X1045.here hx rfl (hb hby own_h399) ?_
         exact hh)
        clear k74
        obtain ⟨T1065, h1066, kA1067, X1068, e1069, E1070, A1071, st1073⟩ := newP X1045 hx hZ (wT hw 15 rfl) e1046 (g := (mkF m 212 #[.val (.ref b), .val (.int nv)] [(.int (6 : Int32)), (.ref a1052), (.ref a1052)])) rfl (hb hby own_h400) rfl (by decide) (cap := 6) (by decide) (by decide) (by decide) (by decide)
        obtain ⟨a1074, g1075⟩ : ∃ z, z = h1044.size := ⟨_, rfl⟩
        rw [← g1075] at A1071 st1073
        have H01076 : h0.size ≤ a1074 := Nat.le_trans P1061.1 (Nat.le_of_eq g1075.symm)
        have G1077 : n0 ≤ a1074 := Nat.le_trans Z1059 (Nat.le_of_eq g1075.symm)
        have hk1078 := Nat.le_trans hk1056 E1070.1
        have Sf1079 := Safe.ext E1070 Cr1062.1 (Safe.new (x := a1074) (Nat.le_of_eq g1075.symm))
        have F1080 := F1058.ext E1070
        have F1081 := Exa.ext (h' := h1066) E1070 A1048
        have F1082 := Fld.ext (h' := h1066) E1070 F1063
        have F1083 := Fld.ext (h' := h1066) E1070 F1064
        have Z1084 : n0 ≤ h1066.size := Nat.le_trans Z1059 E1070.1
        have O1085 := O1060.ext E1070
        have P1086 : Keep h0 h1066 [] := P1061.ext E1070
        have Sf1087 := Safe.ext E1070 Cr1062.1 Sf1057
        have Cr1088 := Cr1062.trans (CHr.ext E1070 Cr1062.1)
        have V1089 : Arv Z h1066 a1074 kA1067 .char (6 : Int32) [(.int (0 : Int32)), (.int (0 : Int32)), (.int (0 : Int32)), (.int (0 : Int32)), (.int (0 : Int32)), (.int (0 : Int32))] (.int (0 : Int32)) := Arv.pad (Arv.new A1071 (by decide)) (pad_rep [] (.int (0 : Int32)) 6)
        have k76 : own_J p e below T1065 m 214 #[.val (.ref b), .val (.int nv)] [(.ref a1074), (.ref a1052), (.ref a1052)] B_ := fun t_ hh => k75 t_ (st1073 t_ hh)
        clear k75 st1073 X1045 e1046
        have k77 : own_J p e below T1065 m 219 #[.val (.ref b), .val (.int nv)] [(.int b5), (.int (0 : Int32)), (.ref a1074), (.ref a1074), (.ref a1052), (.ref a1052)] B_ := fun t_ hh => k76 t_ (by
         refine XS.dup X1068.here hx rfl (hb hby own_h401) rfl rfl ?_
         refine XS.iconst X1068.here hx rfl (hb hby own_h402) ?_
         refine XS.aloadN X1068.here hx rfl (hb hby own_h403) rfl rfl ?_
         refine XS.iconst X1068.here hx rfl (hb hby own_h404) ?_
         refine own_caload X1068 hx hZ e1069 F1080 (j := (5 : Int32)) (v := (.int b5)) (by decide) rfl (g := (mkF m 218 #[.val (.ref b), .val (.int nv)] [(.int (5 : Int32)), (.ref b), (.int (0 : Int32)), (.ref a1074), (.ref a1074), (.ref a1052), (.ref a1052)])) rfl rfl (hb hby own_h405) _ ?_
         exact hh)
        clear k76
        obtain ⟨cl1090, Ar1091, q1092, S1093, Ng1094, H1095, Gf1096⟩ := id V1089
        have hin1097 := inb_of (j := (0 : Int32)) S1093 (by decide)
        obtain ⟨T1098, h1099, X1100, e1101, W1102, st1103⟩ := stC X1068 hx hZ e1069 Ar1091 (j := (0 : Int32)) hin1097 (g := (mkF m 219 #[.val (.ref b), .val (.int nv)] [(.int b5), (.int (0 : Int32)), (.ref a1074), (.ref a1074), (.ref a1052), (.ref a1052)])) rfl rfl (hb hby own_h406)
        have N1104 := Fr.snoc X1100 N0 G1077
        have K1105 : Keep h1066 h1099 [a1074] := Keep.of_wr W1102
        have V1106 := Arv.set Ar1091 q1092 S1093 Ng1094 H1095 Gf1096 (v := (.int (nar .char b5))) (fits_nar_char _) W1102 0 rfl (own_lt rfl)
        have k78 : own_J p e below T1098 m 220 #[.val (.ref b), .val (.int nv)] [(.ref a1074), (.ref a1052), (.ref a1052)] B_ := fun t_ hh => k77 t_ (st1103 t_ hh)
        clear k77 st1103 X1068 e1069 cl1090 Ar1091 q1092 S1093 Ng1094 H1095 Gf1096 hin1097 W1102 V1089
        have ne1107 : b ≠ a1074 := by rw [g1075]; exact Nat.ne_of_lt F1058.lt
        have k79 : own_J p e below T1098 m 226 #[.val (.ref b), .val (.int nv)] [(.int b6), (.int (1 : Int32)), (.ref a1074), (.ref a1074), (.ref a1052), (.ref a1052)] B_ := fun t_ hh => k78 t_ (by
         refine XS.dup X1100.here hx rfl (hb hby own_h407) rfl rfl ?_
         refine XS.iconst X1100.here hx rfl (hb hby own_h408) ?_
         refine XS.aloadN X1100.here hx rfl (hb hby own_h409) rfl rfl ?_
         refine XS.bipush X1100.here hx rfl (hb hby own_h410) ?_
         refine own_caload X1100 hx hZ e1101 (Arv.keep F1080 K1105 (ninS ne1107 nin0)) (j := (6 : Int32)) (v := (.int b6)) (by decide) rfl (g := (mkF m 225 #[.val (.ref b), .val (.int nv)] [(.int (6 : Int32)), (.ref b), (.int (1 : Int32)), (.ref a1074), (.ref a1074), (.ref a1052), (.ref a1052)])) rfl rfl (hb hby own_h411) _ ?_
         exact hh)
        clear k78
        obtain ⟨cl1108, Ar1109, q1110, S1111, Ng1112, H1113, Gf1114⟩ := id V1106
        have hin1115 := inb_of (j := (1 : Int32)) S1111 (by decide)
        obtain ⟨T1116, h1117, X1118, e1119, W1120, st1121⟩ := stC X1100 hx hZ e1101 Ar1109 (j := (1 : Int32)) hin1115 (g := (mkF m 226 #[.val (.ref b), .val (.int nv)] [(.int b6), (.int (1 : Int32)), (.ref a1074), (.ref a1074), (.ref a1052), (.ref a1052)])) rfl rfl (hb hby own_h412)
        have N1122 := Fr.snoc X1118 N1104 G1077
        have K1123 : Keep h1066 h1117 [a1074] := K1105.wr W1120 own_m0
        have V1124 := Arv.set Ar1109 q1110 S1111 Ng1112 H1113 Gf1114 (v := (.int (nar .char b6))) (fits_nar_char _) W1120 1 rfl (own_lt rfl)
        have k80 : own_J p e below T1116 m 227 #[.val (.ref b), .val (.int nv)] [(.ref a1074), (.ref a1052), (.ref a1052)] B_ := fun t_ hh => k79 t_ (st1121 t_ hh)
        clear k79 st1121 X1100 e1101 cl1108 Ar1109 q1110 S1111 Ng1112 H1113 Gf1114 hin1115 W1120 K1105 V1106 N1104
        have k81 : own_J p e below T1116 m 233 #[.val (.ref b), .val (.int nv)] [(.int b7), (.int (2 : Int32)), (.ref a1074), (.ref a1074), (.ref a1052), (.ref a1052)] B_ := fun t_ hh => k80 t_ (by
         refine XS.dup X1118.here hx rfl (hb hby own_h413) rfl rfl ?_
         refine XS.iconst X1118.here hx rfl (hb hby own_h414) ?_
         refine XS.aloadN X1118.here hx rfl (hb hby own_h415) rfl rfl ?_
         refine XS.bipush X1118.here hx rfl (hb hby own_h416) ?_
         refine own_caload X1118 hx hZ e1119 (Arv.keep F1080 K1123 (ninS ne1107 nin0)) (j := (7 : Int32)) (v := (.int b7)) (by decide) rfl (g := (mkF m 232 #[.val (.ref b), .val (.int nv)] [(.int (7 : Int32)), (.ref b), (.int (2 : Int32)), (.ref a1074), (.ref a1074), (.ref a1052), (.ref a1052)])) rfl rfl (hb hby own_h417) _ ?_
         exact hh)
        clear k80
        obtain ⟨cl1125, Ar1126, q1127, S1128, Ng1129, H1130, Gf1131⟩ := id V1124
        have hin1132 := inb_of (j := (2 : Int32)) S1128 (by decide)
        obtain ⟨T1133, h1134, X1135, e1136, W1137, st1138⟩ := stC X1118 hx hZ e1119 Ar1126 (j := (2 : Int32)) hin1132 (g := (mkF m 233 #[.val (.ref b), .val (.int nv)] [(.int b7), (.int (2 : Int32)), (.ref a1074), (.ref a1074), (.ref a1052), (.ref a1052)])) rfl rfl (hb hby own_h418)
        have N1139 := Fr.snoc X1135 N1122 G1077
        have K1140 : Keep h1066 h1134 [a1074] := K1123.wr W1137 own_m0
        have V1141 := Arv.set Ar1126 q1127 S1128 Ng1129 H1130 Gf1131 (v := (.int (nar .char b7))) (fits_nar_char _) W1137 2 rfl (own_lt rfl)
        have k82 : own_J p e below T1133 m 234 #[.val (.ref b), .val (.int nv)] [(.ref a1074), (.ref a1052), (.ref a1052)] B_ := fun t_ hh => k81 t_ (st1138 t_ hh)
        clear k81 st1138 X1118 e1119 cl1125 Ar1126 q1127 S1128 Ng1129 H1130 Gf1131 hin1132 W1137 K1123 V1124 N1122
        have k83 : own_J p e below T1133 m 240 #[.val (.ref b), .val (.int nv)] [(.int b8), (.int (3 : Int32)), (.ref a1074), (.ref a1074), (.ref a1052), (.ref a1052)] B_ := fun t_ hh => k82 t_ (by
         refine XS.dup X1135.here hx rfl (hb hby own_h419) rfl rfl ?_
         refine XS.iconst X1135.here hx rfl (hb hby own_h420) ?_
         refine XS.aloadN X1135.here hx rfl (hb hby own_h421) rfl rfl ?_
         refine XS.bipush X1135.here hx rfl (hb hby own_h422) ?_
         refine own_caload X1135 hx hZ e1136 (Arv.keep F1080 K1140 (ninS ne1107 nin0)) (j := (8 : Int32)) (v := (.int b8)) (by decide) rfl (g := (mkF m 239 #[.val (.ref b), .val (.int nv)] [(.int (8 : Int32)), (.ref b), (.int (3 : Int32)), (.ref a1074), (.ref a1074), (.ref a1052), (.ref a1052)])) rfl rfl (hb hby own_h423) _ ?_
         exact hh)
        clear k82
        obtain ⟨cl1142, Ar1143, q1144, S1145, Ng1146, H1147, Gf1148⟩ := id V1141
        have hin1149 := inb_of (j := (3 : Int32)) S1145 (by decide)
        obtain ⟨T1150, h1151, X1152, e1153, W1154, st1155⟩ := stC X1135 hx hZ e1136 Ar1143 (j := (3 : Int32)) hin1149 (g := (mkF m 240 #[.val (.ref b), .val (.int nv)] [(.int b8), (.int (3 : Int32)), (.ref a1074), (.ref a1074), (.ref a1052), (.ref a1052)])) rfl rfl (hb hby own_h424)
        have N1156 := Fr.snoc X1152 N1139 G1077
        have K1157 : Keep h1066 h1151 [a1074] := K1140.wr W1154 own_m0
        have V1158 := Arv.set Ar1143 q1144 S1145 Ng1146 H1147 Gf1148 (v := (.int (nar .char b8))) (fits_nar_char _) W1154 3 rfl (own_lt rfl)
        have k84 : own_J p e below T1150 m 241 #[.val (.ref b), .val (.int nv)] [(.ref a1074), (.ref a1052), (.ref a1052)] B_ := fun t_ hh => k83 t_ (st1155 t_ hh)
        clear k83 st1155 X1135 e1136 cl1142 Ar1143 q1144 S1145 Ng1146 H1147 Gf1148 hin1149 W1154 K1140 V1141 N1139
        have k85 : own_J p e below T1150 m 247 #[.val (.ref b), .val (.int nv)] [(.int b9), (.int (4 : Int32)), (.ref a1074), (.ref a1074), (.ref a1052), (.ref a1052)] B_ := fun t_ hh => k84 t_ (by
         refine XS.dup X1152.here hx rfl (hb hby own_h425) rfl rfl ?_
         refine XS.iconst X1152.here hx rfl (hb hby own_h426) ?_
         refine XS.aloadN X1152.here hx rfl (hb hby own_h427) rfl rfl ?_
         refine XS.bipush X1152.here hx rfl (hb hby own_h428) ?_
         refine own_caload X1152 hx hZ e1153 (Arv.keep F1080 K1157 (ninS ne1107 nin0)) (j := (9 : Int32)) (v := (.int b9)) (by decide) rfl (g := (mkF m 246 #[.val (.ref b), .val (.int nv)] [(.int (9 : Int32)), (.ref b), (.int (4 : Int32)), (.ref a1074), (.ref a1074), (.ref a1052), (.ref a1052)])) rfl rfl (hb hby own_h429) _ ?_
         exact hh)
        clear k84
        obtain ⟨cl1159, Ar1160, q1161, S1162, Ng1163, H1164, Gf1165⟩ := id V1158
        have hin1166 := inb_of (j := (4 : Int32)) S1162 (by decide)
        obtain ⟨T1167, h1168, X1169, e1170, W1171, st1172⟩ := stC X1152 hx hZ e1153 Ar1160 (j := (4 : Int32)) hin1166 (g := (mkF m 247 #[.val (.ref b), .val (.int nv)] [(.int b9), (.int (4 : Int32)), (.ref a1074), (.ref a1074), (.ref a1052), (.ref a1052)])) rfl rfl (hb hby own_h430)
        have N1173 := Fr.snoc X1169 N1156 G1077
        have K1174 : Keep h1066 h1168 [a1074] := K1157.wr W1171 own_m0
        have V1175 := Arv.set Ar1160 q1161 S1162 Ng1163 H1164 Gf1165 (v := (.int (nar .char b9))) (fits_nar_char _) W1171 4 rfl (own_lt rfl)
        have k86 : own_J p e below T1167 m 248 #[.val (.ref b), .val (.int nv)] [(.ref a1074), (.ref a1052), (.ref a1052)] B_ := fun t_ hh => k85 t_ (st1172 t_ hh)
        clear k85 st1172 X1152 e1153 cl1159 Ar1160 q1161 S1162 Ng1163 H1164 Gf1165 hin1166 W1171 K1157 V1158 N1156
        have k87 : own_J p e below T1167 m 254 #[.val (.ref b), .val (.int nv)] [(.int b10), (.int (5 : Int32)), (.ref a1074), (.ref a1074), (.ref a1052), (.ref a1052)] B_ := fun t_ hh => k86 t_ (by
         refine XS.dup X1169.here hx rfl (hb hby own_h431) rfl rfl ?_
         refine XS.iconst X1169.here hx rfl (hb hby own_h432) ?_
         refine XS.aloadN X1169.here hx rfl (hb hby own_h433) rfl rfl ?_
         refine XS.bipush X1169.here hx rfl (hb hby own_h434) ?_
         refine own_caload X1169 hx hZ e1170 (Arv.keep F1080 K1174 (ninS ne1107 nin0)) (j := (10 : Int32)) (v := (.int b10)) (by decide) rfl (g := (mkF m 253 #[.val (.ref b), .val (.int nv)] [(.int (10 : Int32)), (.ref b), (.int (5 : Int32)), (.ref a1074), (.ref a1074), (.ref a1052), (.ref a1052)])) rfl rfl (hb hby own_h435) _ ?_
         exact hh)
        clear k86
        obtain ⟨cl1176, Ar1177, q1178, S1179, Ng1180, H1181, Gf1182⟩ := id V1175
        have hin1183 := inb_of (j := (5 : Int32)) S1179 (by decide)
        obtain ⟨T1184, h1185, X1186, e1187, W1188, st1189⟩ := stC X1169 hx hZ e1170 Ar1177 (j := (5 : Int32)) hin1183 (g := (mkF m 254 #[.val (.ref b), .val (.int nv)] [(.int b10), (.int (5 : Int32)), (.ref a1074), (.ref a1074), (.ref a1052), (.ref a1052)])) rfl rfl (hb hby own_h436)
        have N1190 := Fr.snoc X1186 N1173 G1077
        have K1191 : Keep h1066 h1185 [a1074] := K1174.wr W1188 own_m0
        have V1192 := Arv.set Ar1177 q1178 S1179 Ng1180 H1181 Gf1182 (v := (.int (nar .char b10))) (fits_nar_char _) W1188 5 rfl (own_lt rfl)
        have k88 : own_J p e below T1184 m 255 #[.val (.ref b), .val (.int nv)] [(.ref a1074), (.ref a1052), (.ref a1052)] B_ := fun t_ hh => k87 t_ (st1189 t_ hh)
        clear k87 st1189 X1169 e1170 cl1176 Ar1177 q1178 S1179 Ng1180 H1181 Gf1182 hin1183 W1188 K1174 V1175 N1173
        have V1193 : Arv Z h1185 a1074 kA1067 .char (6 : Int32) [(.int (nar .char b5)), (.int (nar .char b6)), (.int (nar .char b7)), (.int (nar .char b8)), (.int (nar .char b9)), (.int (nar .char b10))] (.int (0 : Int32)) := V1192
        have F1194 := F1080.keep K1191 (ninS ne1107 nin0)
        have F1195 := F1081.keep K1191
        have ne1197 : a1052 ≠ a1074 := by rw [g1075]; exact Nat.ne_of_lt A1048.lt
        have F1196 := F1082.keep K1191 (ninS ne1197 nin0)
        have F1198 := F1083.keep K1191 (ninS ne1197 nin0)
        have Z1199 : n0 ≤ h1185.size := Nat.le_trans Z1084 K1191.1
        have hk1200 := Nat.le_trans hk1078 K1191.1
        have Sf1201 := Safe.keep K1191 (allS Sf1079 all0) Cr1088.1 Sf1087
        have Sf1202 := Safe.keep K1191 (allS Sf1079 all0) Cr1088.1 Sf1079
        have Cr1203 := Cr1088.trans (CHr.keep K1191 (allS Sf1079 all0) Cr1088.1)
        have O1204 := O1085.keep K1191 (allS G1077 all0)
        have P1205 : Keep h0 h1185 [] := P1086.trans K1191 (allS (P := fun x => x ∈ [] ∨ h0.size ≤ x) (Or.inr H01076) all0)
        have F1206 : Arv Z h1185 a1074 kA1067 .char (Int32.ofNat 6) (([b5, b6, b7, b8, b9, b10] : List Int32).map Value.int) (.int 0) := by have q := V1193; simp only [e5_, e6_, e7_, e8_, e9_, e10_] at q; exact q
        have hcs1207 : own_chs ([b5, b6, b7, b8, b9, b10] : List Int32) := own_chs_drop (cs := [b0, b1, b2, b3, b4, b5, b6, b7, b8, b9, b10]) 5 hbc
        by_cases hA : ∀ c ∈ ([b5, b6, b7, b8, b9, b10] : List Int32), ¬ (255 : Int32) < c
        ·
         obtain ⟨_, _, ⟨T1208, L1209, k_1210, n_1211⟩, -, X1212, ⟨Lc1213, hQ1214, l_1215, y_1216, z_1217⟩, st1218⟩ := X1186.specialBack hx (y := (⟨"java/lang/String", "<init>", "([C)V"⟩ : MethodName)) rfl hown (mvT hZ (wT hw 26 rfl)) (mvT hZ (wT hw 27 rfl)) (mvT hZ (wT hw 28 rfl)) (by decide) (StrChars.Road.backV (W := 1) hZ (fun d hd => hw d (own_sub_words d hd)) (kI := 4) (wT hw 24 rfl) (cs := ([b5, b6, b7, b8, b9, b10] : List Int32)) (n0 := n0) G1055 Z1199 F1195 F1198 F1196 F1206 (Sta.ext O1204.2 sC) hc rfl rfl (own_lt rfl) (own_l rfl) (own_b8s hcs1207 hA) rfl (by decide) (by decide)) (g := (mkF m 255 #[.val (.ref b), .val (.int nv)] [(.ref a1074), (.ref a1052), (.ref a1052)])) rfl (by rw [hml]; rfl) (Steps.refl _) (a := a1052) (argsL := [(.ref a1074)]) (rest := [(.ref a1052)]) (lenOf own_h257 rfl) rfl (by show 2 * 0 + _ ≤ _; exact Nat.le_of_eq rfl) (hb hby own_h437) (fun _ _ => ⟨rfl, e1187, own_l rfl, own_l rfl⟩)
         dsimp only [Pt.U, Pt.locs, Pt.cells, Pt.slots] at X1212 l_1215 y_1216 z_1217 st1218 hQ1214
         replace l_1215 := l_1215.symm
         subst l_1215 y_1216 z_1217
         obtain ⟨rfl, N1219, K1220, E1221, F1222, t1223, kb1224, G1225, G1226, G1227, F1228, F1229⟩ := hQ1214
         have N1230 := Fr.app N1190 N1219
         have ne1232 : b ≠ a1052 := by rw [g1053]; exact Nat.ne_of_lt Fb.lt
         have F1231 := F1194.keep K1220 (ninS ne1232 nin0)
         have F1233 := F1195.keep K1220
         have F1234 := F1206.keep K1220 (ninS (Ne.symm ne1197) nin0)
         have Z1235 : n0 ≤ T1208.heap.size := Nat.le_trans Z1199 K1220.1
         have hk1236 := Nat.le_trans hk1200 K1220.1
         have Sf1237 := Safe.keep K1220 (allS Sf1201 all0) Cr1203.1 Sf1201
         have Sf1238 := Safe.keep K1220 (allS Sf1201 all0) Cr1203.1 Sf1202
         have Cr1239 := Cr1203.trans (CHr.keep K1220 (allS Sf1201 all0) Cr1203.1)
         have O1240 := O1204.keep K1220 (allS G1055 all0)
         have P1241 : Keep h0 T1208.heap [] := P1205.trans K1220 (allS (P := fun x => x ∈ [] ∨ h0.size ≤ x) (Or.inr H01054) all0)
         have S1242 : own_Str Z T1208.heap a1052 t1223 kb1224 ([b5, b6, b7, b8, b9, b10] : List Int32) := ⟨E1221, F1228, F1222, F1229⟩
         have e1243 : T1208.heap = T1208.heap := rfl
         have k89 : own_J p e below T1208 m 258 #[.val (.ref b), .val (.int nv)] [(.ref a1052)] B_ := fun t_ hh => k88 t_ (st1218.trans hh)
         clear k88 st1218 X1186 e1187
         obtain ⟨fs, hr, hrun, hended, hEnd⟩ := X1212.leaveW hS0 (by rw [e1243]; exact hk1236) (v := some (.ref a1052)) (fun h => by rw [Bd.returns] at h; cases h)
         refine ⟨_, _, (own_from hB_ (k89 _ (retOut X1212 hx (t := .object "java/lang/String") Bd.returns rfl (Or.inr (Or.inr (Or.inr (Or.inr ⟨rfl, rfl, rfl⟩)))) (hb hby own_h438) hr))), hrun, hended, _, _, rfl, ?_, ?_, hEnd.1, hEnd.2.1, hEnd.2.2.1, hEnd.2.2.2.mono (own_l rfl) (own_l rfl)⟩
         rotate_left
         · show CHr Z own_EL s.vm s.heap T1208.vm T1208.heap
           rw [hh, e1243]
           exact Cr1239.trans (CHv.at X1212 hZ (own_EW hw) Cr1239.1)
         show Q_mk Z nv b0 b1 b2 b3 b4 b5 b6 b7 b8 b9 b10 h0 n0 _ T1208.heap _
         rw [e1243]
         exact ⟨a1052, rfl, N1230, P1241, G1055, E1221, by rw [c203]; exact (Or.inl ⟨t1223, kb1224, S1242, own_b8s hcs1207 hA⟩)⟩
        ·
         obtain ⟨k, hk, hkb, hlo⟩ := own_first _ hA
         obtain ⟨_, _, ⟨T1244, L1245, k_1246, n_1247⟩, -, X1248, ⟨Lc1249, hQ1250, l_1251, y_1252, z_1253⟩, st1254⟩ := X1186.specialBack hx (y := (⟨"java/lang/String", "<init>", "([C)V"⟩ : MethodName)) rfl hown (mvT hZ (wT hw 26 rfl)) (mvT hZ (wT hw 27 rfl)) (mvT hZ (wT hw 28 rfl)) (by decide) (backOf (W := 1) (rmI2 l Z a0 hw [] a1052 a1074 kA1067 ([b5, b6, b7, b8, b9, b10] : List Int32) k h1185 n0 Z1199 F1195 F1198 F1196 G1055 F1206 (own_l rfl) hcs1207 hk hkb hlo O1204 (Ne.symm ne1197) sA sH sL ci sC hc) hZ (wT hw 28 rfl) (wT hw 25 rfl) (by decide) (by decide)) (g := (mkF m 255 #[.val (.ref b), .val (.int nv)] [(.ref a1074), (.ref a1052), (.ref a1052)])) rfl (by rw [hml]; rfl) (Steps.refl _) (a := a1052) (argsL := [(.ref a1074)]) (rest := [(.ref a1052)]) (lenOf own_h257 rfl) rfl (by show 2 * 0 + _ ≤ _; exact Nat.le_of_eq rfl) (hb hby own_h437) (fun _ _ => ⟨rfl, e1187, own_l rfl, own_l rfl⟩)
         dsimp only [Pt.U, Pt.locs, Pt.cells, Pt.slots] at X1248 l_1251 y_1252 z_1253 st1254 hQ1250
         replace l_1251 := l_1251.symm
         subst l_1251 y_1252 z_1253
         obtain ⟨t1256, kt1257, ds1258, rfl, N1255, K1266, F1259, F1260, F1261, F1262, F1263, F1264, F1265, -⟩ := hQ1250
         have N1267 := Fr.app N1190 N1255
         have H01268 : h0.size ≤ t1256 := Nat.le_trans P1205.1 F1265
         have ne1270 : b ≠ a1052 := by rw [g1053]; exact Nat.ne_of_lt Fb.lt
         have F1269 := F1194.keep K1266 (ninS ne1270 nin0)
         have F1271 := F1195.keep K1266
         have F1272 := F1206.keep K1266 (ninS (Ne.symm ne1197) nin0)
         have Z1273 : n0 ≤ T1244.heap.size := Nat.le_trans Z1199 K1266.1
         have hk1274 := Nat.le_trans hk1200 K1266.1
         have Sf1275 := Safe.keep K1266 (allS Sf1201 all0) Cr1203.1 Sf1201
         have Sf1276 := Safe.keep K1266 (allS Sf1201 all0) Cr1203.1 Sf1202
         have Cr1277 := Cr1203.trans (CHr.keep K1266 (allS Sf1201 all0) Cr1203.1)
         have O1278 := O1204.keep K1266 (allS G1055 all0)
         have P1279 : Keep h0 T1244.heap [] := P1205.trans K1266 (allS (P := fun x => x ∈ [] ∨ h0.size ≤ x) (Or.inr H01054) all0)
         have e1280 : T1244.heap = T1244.heap := rfl
         have k90 : own_J p e below T1244 m 258 #[.val (.ref b), .val (.int nv)] [(.ref a1052)] B_ := fun t_ hh => k88 t_ (st1254.trans hh)
         clear k88 st1254 X1186 e1187
         obtain ⟨fs, hr, hrun, hended, hEnd⟩ := X1248.leaveW hS0 (by rw [e1280]; exact hk1274) (v := some (.ref a1052)) (fun h => by rw [Bd.returns] at h; cases h)
         refine ⟨_, _, (own_from hB_ (k90 _ (retOut X1248 hx (t := .object "java/lang/String") Bd.returns rfl (Or.inr (Or.inr (Or.inr (Or.inr ⟨rfl, rfl, rfl⟩)))) (hb hby own_h438) hr))), hrun, hended, _, _, rfl, ?_, ?_, hEnd.1, hEnd.2.1, hEnd.2.2.1, hEnd.2.2.2.mono (own_l rfl) (own_l rfl)⟩
         rotate_left
         · show CHr Z own_EL s.vm s.heap T1244.vm T1244.heap
           rw [hh, e1280]
           exact Cr1277.trans (CHv.at X1248 hZ (own_EW hw) Cr1277.1)
         show Q_mk Z nv b0 b1 b2 b3 b4 b5 b6 b7 b8 b9 b10 h0 n0 _ T1244.heap _
         rw [e1280]
         exact ⟨a1052, rfl, N1267, P1279, G1055, F1259, by rw [c203]; exact (Or.inr ⟨t1256, kt1257, ds1258, F1259, F1260, F1261, F1262, F1263⟩)⟩
       ·
        have k91 : own_J p e below s₁ m 262 #[.val (.ref b), .val (.int nv)] [(.int (7 : Int32)), (.int nv)] B_ := fun t_ hh => k72 t_ (by
         refine XS.icmpYes X0.here hx rfl (pc0 := 203) (pc' := 259) rfl (hb hby own_h396) rfl (own_icT_ne c203) (by decide) (by decide) ?_
         refine XS.iloadN X0.here hx rfl (hb hby own_h439) rfl ?_
         refine XS.bipush X0.here hx rfl (hb hby own_h440) ?_
         exact hh)
        clear k72
        by_cases c262 : nv = (7 : Int32)
        ·
         have k92 : own_J p e below s₁ m 265 #[.val (.ref b), .val (.int nv)] [] B_ := fun t_ hh => k91 t_ (by
          refine XS.icmpNo X0.here hx rfl (hb hby own_h441) rfl (own_icF_ne c262) ?_
          exact hh)
         clear k91
         obtain ⟨T1281, h1282, X1283, e1284, E1285, A1286, D1287, U1289, st1288⟩ := newO X0 hx hZ hown (wT hw 23 rfl) (wT hw 24 rfl) (wT hw 25 rfl) e0 (g := (mkF m 265 #[.val (.ref b), .val (.int nv)] [])) rfl (hb hby own_h442) (by decide) (by decide)
         obtain ⟨a1290, g1291⟩ : ∃ z, z = h0.size := ⟨_, rfl⟩
         rw [← g1291] at A1286 D1287 U1289 st1288
         have H01292 : h0.size ≤ a1290 := Nat.le_trans K0.1 (Nat.le_of_eq g1291.symm)
         have G1293 : n0 ≤ a1290 := Nat.le_trans Z0 (Nat.le_of_eq g1291.symm)
         have hk1294 := Nat.le_trans hk0 E1285.1
         have Sf1295 := Safe.ext E1285 Cr0.1 (Safe.new (x := a1290) (Nat.le_of_eq g1291.symm))
         have F1296 := Fb.ext E1285
         have Z1297 : n0 ≤ h1282.size := Nat.le_trans Z0 E1285.1
         have O1298 := O0.ext E1285
         have P1299 : Keep h0 h1282 [] := K0.ext E1285
         have Cr1300 := Cr0.trans (CHr.ext E1285 Cr0.1)
         have F1301 : Fld Z h1282 a1290 "java/lang/String" "coder" "B" (.int (0 : Int32)) := D1287 (Or.inr (wT hw 49 rfl)) (ty := .byte) (by decide)
         have F1302 : Fld Z h1282 a1290 "java/lang/String" "value" "[B" .null := D1287 (Or.inr (wT hw 51 rfl)) (ty := .array .byte) (by decide)
         have k93 : own_J p e below T1281 m 268 #[.val (.ref b), .val (.int nv)] [(.ref a1290)] B_ := fun t_ hh => k92 t_ (st1288 t_ hh)
         clear k92 st1288
         have k94 : own_J p e below T1281 m 271 #[.val (.ref b), .val (.int nv)] [(.int (7 : Int32)), (.ref a1290), (.ref a1290)] B_ := fun t_ hh => k93 t_ (by
          refine XS.dup X1283.here hx rfl (hb hby own_h443) rfl rfl ?_
          refine XS.bipush X1283.here hx rfl (hb hby own_h444) ?_
          exact hh)
         clear k93
         obtain ⟨T1303, h1304, kA1305, X1306, e1307, E1308, A1309, st1311⟩ := newP X1283 hx hZ (wT hw 15 rfl) e1284 (g := (mkF m 271 #[.val (.ref b), .val (.int nv)] [(.int (7 : Int32)), (.ref a1290), (.ref a1290)])) rfl (hb hby own_h445) rfl (by decide) (cap := 7) (by decide) (by decide) (by decide) (by decide)
         obtain ⟨a1312, g1313⟩ : ∃ z, z = h1282.size := ⟨_, rfl⟩
         rw [← g1313] at A1309 st1311
         have H01314 : h0.size ≤ a1312 := Nat.le_trans P1299.1 (Nat.le_of_eq g1313.symm)
         have G1315 : n0 ≤ a1312 := Nat.le_trans Z1297 (Nat.le_of_eq g1313.symm)
         have hk1316 := Nat.le_trans hk1294 E1308.1
         have Sf1317 := Safe.ext E1308 Cr1300.1 (Safe.new (x := a1312) (Nat.le_of_eq g1313.symm))
         have F1318 := F1296.ext E1308
         have F1319 := Exa.ext (h' := h1304) E1308 A1286
         have F1320 := Fld.ext (h' := h1304) E1308 F1301
         have F1321 := Fld.ext (h' := h1304) E1308 F1302
         have Z1322 : n0 ≤ h1304.size := Nat.le_trans Z1297 E1308.1
         have O1323 := O1298.ext E1308
         have P1324 : Keep h0 h1304 [] := P1299.ext E1308
         have Sf1325 := Safe.ext E1308 Cr1300.1 Sf1295
         have Cr1326 := Cr1300.trans (CHr.ext E1308 Cr1300.1)
         have V1327 : Arv Z h1304 a1312 kA1305 .char (7 : Int32) [(.int (0 : Int32)), (.int (0 : Int32)), (.int (0 : Int32)), (.int (0 : Int32)), (.int (0 : Int32)), (.int (0 : Int32)), (.int (0 : Int32))] (.int (0 : Int32)) := Arv.pad (Arv.new A1309 (by decide)) (pad_rep [] (.int (0 : Int32)) 7)
         have k95 : own_J p e below T1303 m 273 #[.val (.ref b), .val (.int nv)] [(.ref a1312), (.ref a1290), (.ref a1290)] B_ := fun t_ hh => k94 t_ (st1311 t_ hh)
         clear k94 st1311 X1283 e1284
         have k96 : own_J p e below T1303 m 278 #[.val (.ref b), .val (.int nv)] [(.int b4), (.int (0 : Int32)), (.ref a1312), (.ref a1312), (.ref a1290), (.ref a1290)] B_ := fun t_ hh => k95 t_ (by
          refine XS.dup X1306.here hx rfl (hb hby own_h446) rfl rfl ?_
          refine XS.iconst X1306.here hx rfl (hb hby own_h447) ?_
          refine XS.aloadN X1306.here hx rfl (hb hby own_h448) rfl rfl ?_
          refine XS.iconst X1306.here hx rfl (hb hby own_h449) ?_
          refine own_caload X1306 hx hZ e1307 F1318 (j := (4 : Int32)) (v := (.int b4)) (by decide) rfl (g := (mkF m 277 #[.val (.ref b), .val (.int nv)] [(.int (4 : Int32)), (.ref b), (.int (0 : Int32)), (.ref a1312), (.ref a1312), (.ref a1290), (.ref a1290)])) rfl rfl (hb hby own_h450) _ ?_
          exact hh)
         clear k95
         obtain ⟨cl1328, Ar1329, q1330, S1331, Ng1332, H1333, Gf1334⟩ := id V1327
         have hin1335 := inb_of (j := (0 : Int32)) S1331 (by decide)
         obtain ⟨T1336, h1337, X1338, e1339, W1340, st1341⟩ := stC X1306 hx hZ e1307 Ar1329 (j := (0 : Int32)) hin1335 (g := (mkF m 278 #[.val (.ref b), .val (.int nv)] [(.int b4), (.int (0 : Int32)), (.ref a1312), (.ref a1312), (.ref a1290), (.ref a1290)])) rfl rfl (hb hby own_h451)
         have N1342 := Fr.snoc X1338 N0 G1315
         have K1343 : Keep h1304 h1337 [a1312] := Keep.of_wr W1340
         have V1344 := Arv.set Ar1329 q1330 S1331 Ng1332 H1333 Gf1334 (v := (.int (nar .char b4))) (fits_nar_char _) W1340 0 rfl (own_lt rfl)
         have k97 : own_J p e below T1336 m 279 #[.val (.ref b), .val (.int nv)] [(.ref a1312), (.ref a1290), (.ref a1290)] B_ := fun t_ hh => k96 t_ (st1341 t_ hh)
         clear k96 st1341 X1306 e1307 cl1328 Ar1329 q1330 S1331 Ng1332 H1333 Gf1334 hin1335 W1340 V1327
         have ne1345 : b ≠ a1312 := by rw [g1313]; exact Nat.ne_of_lt F1296.lt
         have k98 : own_J p e below T1336 m 284 #[.val (.ref b), .val (.int nv)] [(.int b5), (.int (1 : Int32)), (.ref a1312), (.ref a1312), (.ref a1290), (.ref a1290)] B_ := fun t_ hh => k97 t_ (by
          refine XS.dup X1338.here hx rfl (hb hby own_h452) rfl rfl ?_
          refine XS.iconst X1338.here hx rfl (hb hby own_h453) ?_
          refine XS.aloadN X1338.here hx rfl (hb hby own_h454) rfl rfl ?_
          refine XS.iconst X1338.here hx rfl (hb hby own_h455) ?_
          refine own_caload X1338 hx hZ e1339 (Arv.keep F1318 K1343 (ninS ne1345 nin0)) (j := (5 : Int32)) (v := (.int b5)) (by decide) rfl (g := (mkF m 283 #[.val (.ref b), .val (.int nv)] [(.int (5 : Int32)), (.ref b), (.int (1 : Int32)), (.ref a1312), (.ref a1312), (.ref a1290), (.ref a1290)])) rfl rfl (hb hby own_h456) _ ?_
          exact hh)
         clear k97
         obtain ⟨cl1346, Ar1347, q1348, S1349, Ng1350, H1351, Gf1352⟩ := id V1344
         have hin1353 := inb_of (j := (1 : Int32)) S1349 (by decide)
         obtain ⟨T1354, h1355, X1356, e1357, W1358, st1359⟩ := stC X1338 hx hZ e1339 Ar1347 (j := (1 : Int32)) hin1353 (g := (mkF m 284 #[.val (.ref b), .val (.int nv)] [(.int b5), (.int (1 : Int32)), (.ref a1312), (.ref a1312), (.ref a1290), (.ref a1290)])) rfl rfl (hb hby own_h457)
         have N1360 := Fr.snoc X1356 N1342 G1315
         have K1361 : Keep h1304 h1355 [a1312] := K1343.wr W1358 own_m0
         have V1362 := Arv.set Ar1347 q1348 S1349 Ng1350 H1351 Gf1352 (v := (.int (nar .char b5))) (fits_nar_char _) W1358 1 rfl (own_lt rfl)
         have k99 : own_J p e below T1354 m 285 #[.val (.ref b), .val (.int nv)] [(.ref a1312), (.ref a1290), (.ref a1290)] B_ := fun t_ hh => k98 t_ (st1359 t_ hh)
         clear k98 st1359 X1338 e1339 cl1346 Ar1347 q1348 S1349 Ng1350 H1351 Gf1352 hin1353 W1358 K1343 V1344 N1342
         have k100 : own_J p e below T1354 m 291 #[.val (.ref b), .val (.int nv)] [(.int b6), (.int (2 : Int32)), (.ref a1312), (.ref a1312), (.ref a1290), (.ref a1290)] B_ := fun t_ hh => k99 t_ (by
          refine XS.dup X1356.here hx rfl (hb hby own_h458) rfl rfl ?_
          refine XS.iconst X1356.here hx rfl (hb hby own_h459) ?_
          refine XS.aloadN X1356.here hx rfl (hb hby own_h460) rfl rfl ?_
          refine XS.bipush X1356.here hx rfl (hb hby own_h461) ?_
          refine own_caload X1356 hx hZ e1357 (Arv.keep F1318 K1361 (ninS ne1345 nin0)) (j := (6 : Int32)) (v := (.int b6)) (by decide) rfl (g := (mkF m 290 #[.val (.ref b), .val (.int nv)] [(.int (6 : Int32)), (.ref b), (.int (2 : Int32)), (.ref a1312), (.ref a1312), (.ref a1290), (.ref a1290)])) rfl rfl (hb hby own_h462) _ ?_
          exact hh)
         clear k99
         obtain ⟨cl1363, Ar1364, q1365, S1366, Ng1367, H1368, Gf1369⟩ := id V1362
         have hin1370 := inb_of (j := (2 : Int32)) S1366 (by decide)
         obtain ⟨T1371, h1372, X1373, e1374, W1375, st1376⟩ := stC X1356 hx hZ e1357 Ar1364 (j := (2 : Int32)) hin1370 (g := (mkF m 291 #[.val (.ref b), .val (.int nv)] [(.int b6), (.int (2 : Int32)), (.ref a1312), (.ref a1312), (.ref a1290), (.ref a1290)])) rfl rfl (hb hby own_h463)
         have N1377 := Fr.snoc X1373 N1360 G1315
         have K1378 : Keep h1304 h1372 [a1312] := K1361.wr W1375 own_m0
         have V1379 := Arv.set Ar1364 q1365 S1366 Ng1367 H1368 Gf1369 (v := (.int (nar .char b6))) (fits_nar_char _) W1375 2 rfl (own_lt rfl)
         have k101 : own_J p e below T1371 m 292 #[.val (.ref b), .val (.int nv)] [(.ref a1312), (.ref a1290), (.ref a1290)] B_ := fun t_ hh => k100 t_ (st1376 t_ hh)
         clear k100 st1376 X1356 e1357 cl1363 Ar1364 q1365 S1366 Ng1367 H1368 Gf1369 hin1370 W1375 K1361 V1362 N1360
         have k102 : own_J p e below T1371 m 298 #[.val (.ref b), .val (.int nv)] [(.int b7), (.int (3 : Int32)), (.ref a1312), (.ref a1312), (.ref a1290), (.ref a1290)] B_ := fun t_ hh => k101 t_ (by
          refine XS.dup X1373.here hx rfl (hb hby own_h464) rfl rfl ?_
          refine XS.iconst X1373.here hx rfl (hb hby own_h465) ?_
          refine XS.aloadN X1373.here hx rfl (hb hby own_h466) rfl rfl ?_
          refine XS.bipush X1373.here hx rfl (hb hby own_h467) ?_
          refine own_caload X1373 hx hZ e1374 (Arv.keep F1318 K1378 (ninS ne1345 nin0)) (j := (7 : Int32)) (v := (.int b7)) (by decide) rfl (g := (mkF m 297 #[.val (.ref b), .val (.int nv)] [(.int (7 : Int32)), (.ref b), (.int (3 : Int32)), (.ref a1312), (.ref a1312), (.ref a1290), (.ref a1290)])) rfl rfl (hb hby own_h468) _ ?_
          exact hh)
         clear k101
         obtain ⟨cl1380, Ar1381, q1382, S1383, Ng1384, H1385, Gf1386⟩ := id V1379
         have hin1387 := inb_of (j := (3 : Int32)) S1383 (by decide)
         obtain ⟨T1388, h1389, X1390, e1391, W1392, st1393⟩ := stC X1373 hx hZ e1374 Ar1381 (j := (3 : Int32)) hin1387 (g := (mkF m 298 #[.val (.ref b), .val (.int nv)] [(.int b7), (.int (3 : Int32)), (.ref a1312), (.ref a1312), (.ref a1290), (.ref a1290)])) rfl rfl (hb hby own_h469)
         have N1394 := Fr.snoc X1390 N1377 G1315
         have K1395 : Keep h1304 h1389 [a1312] := K1378.wr W1392 own_m0
         have V1396 := Arv.set Ar1381 q1382 S1383 Ng1384 H1385 Gf1386 (v := (.int (nar .char b7))) (fits_nar_char _) W1392 3 rfl (own_lt rfl)
         have k103 : own_J p e below T1388 m 299 #[.val (.ref b), .val (.int nv)] [(.ref a1312), (.ref a1290), (.ref a1290)] B_ := fun t_ hh => k102 t_ (st1393 t_ hh)
         clear k102 st1393 X1373 e1374 cl1380 Ar1381 q1382 S1383 Ng1384 H1385 Gf1386 hin1387 W1392 K1378 V1379 N1377
         have k104 : own_J p e below T1388 m 305 #[.val (.ref b), .val (.int nv)] [(.int b8), (.int (4 : Int32)), (.ref a1312), (.ref a1312), (.ref a1290), (.ref a1290)] B_ := fun t_ hh => k103 t_ (by
          refine XS.dup X1390.here hx rfl (hb hby own_h470) rfl rfl ?_
          refine XS.iconst X1390.here hx rfl (hb hby own_h471) ?_
          refine XS.aloadN X1390.here hx rfl (hb hby own_h472) rfl rfl ?_
          refine XS.bipush X1390.here hx rfl (hb hby own_h473) ?_
          refine own_caload X1390 hx hZ e1391 (Arv.keep F1318 K1395 (ninS ne1345 nin0)) (j := (8 : Int32)) (v := (.int b8)) (by decide) rfl (g := (mkF m 304 #[.val (.ref b), .val (.int nv)] [(.int (8 : Int32)), (.ref b), (.int (4 : Int32)), (.ref a1312), (.ref a1312), (.ref a1290), (.ref a1290)])) rfl rfl (hb hby own_h474) _ ?_
          exact hh)
         clear k103
         obtain ⟨cl1397, Ar1398, q1399, S1400, Ng1401, H1402, Gf1403⟩ := id V1396
         have hin1404 := inb_of (j := (4 : Int32)) S1400 (by decide)
         obtain ⟨T1405, h1406, X1407, e1408, W1409, st1410⟩ := stC X1390 hx hZ e1391 Ar1398 (j := (4 : Int32)) hin1404 (g := (mkF m 305 #[.val (.ref b), .val (.int nv)] [(.int b8), (.int (4 : Int32)), (.ref a1312), (.ref a1312), (.ref a1290), (.ref a1290)])) rfl rfl (hb hby own_h475)
         have N1411 := Fr.snoc X1407 N1394 G1315
         have K1412 : Keep h1304 h1406 [a1312] := K1395.wr W1409 own_m0
         have V1413 := Arv.set Ar1398 q1399 S1400 Ng1401 H1402 Gf1403 (v := (.int (nar .char b8))) (fits_nar_char _) W1409 4 rfl (own_lt rfl)
         have k105 : own_J p e below T1405 m 306 #[.val (.ref b), .val (.int nv)] [(.ref a1312), (.ref a1290), (.ref a1290)] B_ := fun t_ hh => k104 t_ (st1410 t_ hh)
         clear k104 st1410 X1390 e1391 cl1397 Ar1398 q1399 S1400 Ng1401 H1402 Gf1403 hin1404 W1409 K1395 V1396 N1394
         have k106 : own_J p e below T1405 m 312 #[.val (.ref b), .val (.int nv)] [(.int b9), (.int (5 : Int32)), (.ref a1312), (.ref a1312), (.ref a1290), (.ref a1290)] B_ := fun t_ hh => k105 t_ (by
          refine XS.dup X1407.here hx rfl (hb hby own_h476) rfl rfl ?_
          refine XS.iconst X1407.here hx rfl (hb hby own_h477) ?_
          refine XS.aloadN X1407.here hx rfl (hb hby own_h478) rfl rfl ?_
          refine XS.bipush X1407.here hx rfl (hb hby own_h479) ?_
          refine own_caload X1407 hx hZ e1408 (Arv.keep F1318 K1412 (ninS ne1345 nin0)) (j := (9 : Int32)) (v := (.int b9)) (by decide) rfl (g := (mkF m 311 #[.val (.ref b), .val (.int nv)] [(.int (9 : Int32)), (.ref b), (.int (5 : Int32)), (.ref a1312), (.ref a1312), (.ref a1290), (.ref a1290)])) rfl rfl (hb hby own_h480) _ ?_
          exact hh)
         clear k105
         obtain ⟨cl1414, Ar1415, q1416, S1417, Ng1418, H1419, Gf1420⟩ := id V1413
         have hin1421 := inb_of (j := (5 : Int32)) S1417 (by decide)
         obtain ⟨T1422, h1423, X1424, e1425, W1426, st1427⟩ := stC X1407 hx hZ e1408 Ar1415 (j := (5 : Int32)) hin1421 (g := (mkF m 312 #[.val (.ref b), .val (.int nv)] [(.int b9), (.int (5 : Int32)), (.ref a1312), (.ref a1312), (.ref a1290), (.ref a1290)])) rfl rfl (hb hby own_h481)
         have N1428 := Fr.snoc X1424 N1411 G1315
         have K1429 : Keep h1304 h1423 [a1312] := K1412.wr W1426 own_m0
         have V1430 := Arv.set Ar1415 q1416 S1417 Ng1418 H1419 Gf1420 (v := (.int (nar .char b9))) (fits_nar_char _) W1426 5 rfl (own_lt rfl)
         have k107 : own_J p e below T1422 m 313 #[.val (.ref b), .val (.int nv)] [(.ref a1312), (.ref a1290), (.ref a1290)] B_ := fun t_ hh => k106 t_ (st1427 t_ hh)
         clear k106 st1427 X1407 e1408 cl1414 Ar1415 q1416 S1417 Ng1418 H1419 Gf1420 hin1421 W1426 K1412 V1413 N1411
         have k108 : own_J p e below T1422 m 320 #[.val (.ref b), .val (.int nv)] [(.int b10), (.int (6 : Int32)), (.ref a1312), (.ref a1312), (.ref a1290), (.ref a1290)] B_ := fun t_ hh => k107 t_ (by
          refine XS.dup X1424.here hx rfl (hb hby own_h482) rfl rfl ?_
          refine XS.bipush X1424.here hx rfl (hb hby own_h483) ?_
          refine XS.aloadN X1424.here hx rfl (hb hby own_h484) rfl rfl ?_
          refine XS.bipush X1424.here hx rfl (hb hby own_h485) ?_
          refine own_caload X1424 hx hZ e1425 (Arv.keep F1318 K1429 (ninS ne1345 nin0)) (j := (10 : Int32)) (v := (.int b10)) (by decide) rfl (g := (mkF m 319 #[.val (.ref b), .val (.int nv)] [(.int (10 : Int32)), (.ref b), (.int (6 : Int32)), (.ref a1312), (.ref a1312), (.ref a1290), (.ref a1290)])) rfl rfl (hb hby own_h486) _ ?_
          exact hh)
         clear k107
         obtain ⟨cl1431, Ar1432, q1433, S1434, Ng1435, H1436, Gf1437⟩ := id V1430
         have hin1438 := inb_of (j := (6 : Int32)) S1434 (by decide)
         obtain ⟨T1439, h1440, X1441, e1442, W1443, st1444⟩ := stC X1424 hx hZ e1425 Ar1432 (j := (6 : Int32)) hin1438 (g := (mkF m 320 #[.val (.ref b), .val (.int nv)] [(.int b10), (.int (6 : Int32)), (.ref a1312), (.ref a1312), (.ref a1290), (.ref a1290)])) rfl rfl (hb hby own_h487)
         have N1445 := Fr.snoc X1441 N1428 G1315
         have K1446 : Keep h1304 h1440 [a1312] := K1429.wr W1443 own_m0
         have V1447 := Arv.set Ar1432 q1433 S1434 Ng1435 H1436 Gf1437 (v := (.int (nar .char b10))) (fits_nar_char _) W1443 6 rfl (own_lt rfl)
         have k109 : own_J p e below T1439 m 321 #[.val (.ref b), .val (.int nv)] [(.ref a1312), (.ref a1290), (.ref a1290)] B_ := fun t_ hh => k108 t_ (st1444 t_ hh)
         clear k108 st1444 X1424 e1425 cl1431 Ar1432 q1433 S1434 Ng1435 H1436 Gf1437 hin1438 W1443 K1429 V1430 N1428
         have V1448 : Arv Z h1440 a1312 kA1305 .char (7 : Int32) [(.int (nar .char b4)), (.int (nar .char b5)), (.int (nar .char b6)), (.int (nar .char b7)), (.int (nar .char b8)), (.int (nar .char b9)), (.int (nar .char b10))] (.int (0 : Int32)) := V1447
         have F1449 := F1318.keep K1446 (ninS ne1345 nin0)
         have F1450 := F1319.keep K1446
         have ne1452 : a1290 ≠ a1312 := by rw [g1313]; exact Nat.ne_of_lt A1286.lt
         have F1451 := F1320.keep K1446 (ninS ne1452 nin0)
         have F1453 := F1321.keep K1446 (ninS ne1452 nin0)
         have Z1454 : n0 ≤ h1440.size := Nat.le_trans Z1322 K1446.1
         have hk1455 := Nat.le_trans hk1316 K1446.1
         have Sf1456 := Safe.keep K1446 (allS Sf1317 all0) Cr1326.1 Sf1325
         have Sf1457 := Safe.keep K1446 (allS Sf1317 all0) Cr1326.1 Sf1317
         have Cr1458 := Cr1326.trans (CHr.keep K1446 (allS Sf1317 all0) Cr1326.1)
         have O1459 := O1323.keep K1446 (allS G1315 all0)
         have P1460 : Keep h0 h1440 [] := P1324.trans K1446 (allS (P := fun x => x ∈ [] ∨ h0.size ≤ x) (Or.inr H01314) all0)
         have F1461 : Arv Z h1440 a1312 kA1305 .char (Int32.ofNat 7) (([b4, b5, b6, b7, b8, b9, b10] : List Int32).map Value.int) (.int 0) := by have q := V1448; simp only [e4_, e5_, e6_, e7_, e8_, e9_, e10_] at q; exact q
         have hcs1462 : own_chs ([b4, b5, b6, b7, b8, b9, b10] : List Int32) := own_chs_drop (cs := [b0, b1, b2, b3, b4, b5, b6, b7, b8, b9, b10]) 4 hbc
         by_cases hA : ∀ c ∈ ([b4, b5, b6, b7, b8, b9, b10] : List Int32), ¬ (255 : Int32) < c
         ·
          obtain ⟨_, _, ⟨T1463, L1464, k_1465, n_1466⟩, -, X1467, ⟨Lc1468, hQ1469, l_1470, y_1471, z_1472⟩, st1473⟩ := X1441.specialBack hx (y := (⟨"java/lang/String", "<init>", "([C)V"⟩ : MethodName)) rfl hown (mvT hZ (wT hw 26 rfl)) (mvT hZ (wT hw 27 rfl)) (mvT hZ (wT hw 28 rfl)) (by decide) (StrChars.Road.backV (W := 1) hZ (fun d hd => hw d (own_sub_words d hd)) (kI := 4) (wT hw 24 rfl) (cs := ([b4, b5, b6, b7, b8, b9, b10] : List Int32)) (n0 := n0) G1293 Z1454 F1450 F1453 F1451 F1461 (Sta.ext O1459.2 sC) hc rfl rfl (own_lt rfl) (own_l rfl) (own_b8s hcs1462 hA) rfl (by decide) (by decide)) (g := (mkF m 321 #[.val (.ref b), .val (.int nv)] [(.ref a1312), (.ref a1290), (.ref a1290)])) rfl (by rw [hml]; rfl) (Steps.refl _) (a := a1290) (argsL := [(.ref a1312)]) (rest := [(.ref a1290)]) (lenOf own_h257 rfl) rfl (by show 2 * 0 + _ ≤ _; exact Nat.le_of_eq rfl) (hb hby own_h488) (fun _ _ => ⟨rfl, e1442, own_l rfl, own_l rfl⟩)
          dsimp only [Pt.U, Pt.locs, Pt.cells, Pt.slots] at X1467 l_1470 y_1471 z_1472 st1473 hQ1469
          replace l_1470 := l_1470.symm
          subst l_1470 y_1471 z_1472
          obtain ⟨rfl, N1474, K1475, E1476, F1477, t1478, kb1479, G1480, G1481, G1482, F1483, F1484⟩ := hQ1469
          have N1485 := Fr.app N1445 N1474
          have ne1487 : b ≠ a1290 := by rw [g1291]; exact Nat.ne_of_lt Fb.lt
          have F1486 := F1449.keep K1475 (ninS ne1487 nin0)
          have F1488 := F1450.keep K1475
          have F1489 := F1461.keep K1475 (ninS (Ne.symm ne1452) nin0)
          have Z1490 : n0 ≤ T1463.heap.size := Nat.le_trans Z1454 K1475.1
          have hk1491 := Nat.le_trans hk1455 K1475.1
          have Sf1492 := Safe.keep K1475 (allS Sf1456 all0) Cr1458.1 Sf1456
          have Sf1493 := Safe.keep K1475 (allS Sf1456 all0) Cr1458.1 Sf1457
          have Cr1494 := Cr1458.trans (CHr.keep K1475 (allS Sf1456 all0) Cr1458.1)
          have O1495 := O1459.keep K1475 (allS G1293 all0)
          have P1496 : Keep h0 T1463.heap [] := P1460.trans K1475 (allS (P := fun x => x ∈ [] ∨ h0.size ≤ x) (Or.inr H01292) all0)
          have S1497 : own_Str Z T1463.heap a1290 t1478 kb1479 ([b4, b5, b6, b7, b8, b9, b10] : List Int32) := ⟨E1476, F1483, F1477, F1484⟩
          have e1498 : T1463.heap = T1463.heap := rfl
          have k110 : own_J p e below T1463 m 324 #[.val (.ref b), .val (.int nv)] [(.ref a1290)] B_ := fun t_ hh => k109 t_ (st1473.trans hh)
          clear k109 st1473 X1441 e1442
          obtain ⟨fs, hr, hrun, hended, hEnd⟩ := X1467.leaveW hS0 (by rw [e1498]; exact hk1491) (v := some (.ref a1290)) (fun h => by rw [Bd.returns] at h; cases h)
          refine ⟨_, _, (own_from hB_ (k110 _ (retOut X1467 hx (t := .object "java/lang/String") Bd.returns rfl (Or.inr (Or.inr (Or.inr (Or.inr ⟨rfl, rfl, rfl⟩)))) (hb hby own_h489) hr))), hrun, hended, _, _, rfl, ?_, ?_, hEnd.1, hEnd.2.1, hEnd.2.2.1, hEnd.2.2.2.mono (own_l rfl) (own_l rfl)⟩
          rotate_left
          · show CHr Z own_EL s.vm s.heap T1463.vm T1463.heap
            rw [hh, e1498]
            exact Cr1494.trans (CHv.at X1467 hZ (own_EW hw) Cr1494.1)
          show Q_mk Z nv b0 b1 b2 b3 b4 b5 b6 b7 b8 b9 b10 h0 n0 _ T1463.heap _
          rw [e1498]
          exact ⟨a1290, rfl, N1485, P1496, G1293, E1476, by rw [c262]; exact (Or.inl ⟨t1478, kb1479, S1497, own_b8s hcs1462 hA⟩)⟩
         ·
          obtain ⟨k, hk, hkb, hlo⟩ := own_first _ hA
          obtain ⟨_, _, ⟨T1499, L1500, k_1501, n_1502⟩, -, X1503, ⟨Lc1504, hQ1505, l_1506, y_1507, z_1508⟩, st1509⟩ := X1441.specialBack hx (y := (⟨"java/lang/String", "<init>", "([C)V"⟩ : MethodName)) rfl hown (mvT hZ (wT hw 26 rfl)) (mvT hZ (wT hw 27 rfl)) (mvT hZ (wT hw 28 rfl)) (by decide) (backOf (W := 1) (rmI2 l Z a0 hw [] a1290 a1312 kA1305 ([b4, b5, b6, b7, b8, b9, b10] : List Int32) k h1440 n0 Z1454 F1450 F1453 F1451 G1293 F1461 (own_l rfl) hcs1462 hk hkb hlo O1459 (Ne.symm ne1452) sA sH sL ci sC hc) hZ (wT hw 28 rfl) (wT hw 25 rfl) (by decide) (by decide)) (g := (mkF m 321 #[.val (.ref b), .val (.int nv)] [(.ref a1312), (.ref a1290), (.ref a1290)])) rfl (by rw [hml]; rfl) (Steps.refl _) (a := a1290) (argsL := [(.ref a1312)]) (rest := [(.ref a1290)]) (lenOf own_h257 rfl) rfl (by show 2 * 0 + _ ≤ _; exact Nat.le_of_eq rfl) (hb hby own_h488) (fun _ _ => ⟨rfl, e1442, own_l rfl, own_l rfl⟩)
          dsimp only [Pt.U, Pt.locs, Pt.cells, Pt.slots] at X1503 l_1506 y_1507 z_1508 st1509 hQ1505
          replace l_1506 := l_1506.symm
          subst l_1506 y_1507 z_1508
          obtain ⟨t1511, kt1512, ds1513, rfl, N1510, K1521, F1514, F1515, F1516, F1517, F1518, F1519, F1520, -⟩ := hQ1505
          have N1522 := Fr.app N1445 N1510
          have H01523 : h0.size ≤ t1511 := Nat.le_trans P1460.1 F1520
          have ne1525 : b ≠ a1290 := by rw [g1291]; exact Nat.ne_of_lt Fb.lt
          have F1524 := F1449.keep K1521 (ninS ne1525 nin0)
          have F1526 := F1450.keep K1521
          have F1527 := F1461.keep K1521 (ninS (Ne.symm ne1452) nin0)
          have Z1528 : n0 ≤ T1499.heap.size := Nat.le_trans Z1454 K1521.1
          have hk1529 := Nat.le_trans hk1455 K1521.1
          have Sf1530 := Safe.keep K1521 (allS Sf1456 all0) Cr1458.1 Sf1456
          have Sf1531 := Safe.keep K1521 (allS Sf1456 all0) Cr1458.1 Sf1457
          have Cr1532 := Cr1458.trans (CHr.keep K1521 (allS Sf1456 all0) Cr1458.1)
          have O1533 := O1459.keep K1521 (allS G1293 all0)
          have P1534 : Keep h0 T1499.heap [] := P1460.trans K1521 (allS (P := fun x => x ∈ [] ∨ h0.size ≤ x) (Or.inr H01292) all0)
          have e1535 : T1499.heap = T1499.heap := rfl
          have k111 : own_J p e below T1499 m 324 #[.val (.ref b), .val (.int nv)] [(.ref a1290)] B_ := fun t_ hh => k109 t_ (st1509.trans hh)
          clear k109 st1509 X1441 e1442
          obtain ⟨fs, hr, hrun, hended, hEnd⟩ := X1503.leaveW hS0 (by rw [e1535]; exact hk1529) (v := some (.ref a1290)) (fun h => by rw [Bd.returns] at h; cases h)
          refine ⟨_, _, (own_from hB_ (k111 _ (retOut X1503 hx (t := .object "java/lang/String") Bd.returns rfl (Or.inr (Or.inr (Or.inr (Or.inr ⟨rfl, rfl, rfl⟩)))) (hb hby own_h489) hr))), hrun, hended, _, _, rfl, ?_, ?_, hEnd.1, hEnd.2.1, hEnd.2.2.1, hEnd.2.2.2.mono (own_l rfl) (own_l rfl)⟩
          rotate_left
          · show CHr Z own_EL s.vm s.heap T1499.vm T1499.heap
            rw [hh, e1535]
            exact Cr1532.trans (CHv.at X1503 hZ (own_EW hw) Cr1532.1)
          show Q_mk Z nv b0 b1 b2 b3 b4 b5 b6 b7 b8 b9 b10 h0 n0 _ T1499.heap _
          rw [e1535]
          exact ⟨a1290, rfl, N1522, P1534, G1293, F1514, by rw [c262]; exact (Or.inr ⟨t1511, kt1512, ds1513, F1514, F1515, F1516, F1517, F1518⟩)⟩
        ·
         have k112 : own_J p e below s₁ m 328 #[.val (.ref b), .val (.int nv)] [(.int (8 : Int32)), (.int nv)] B_ := fun t_ hh => k91 t_ (by
          refine XS.icmpYes X0.here hx rfl (pc0 := 262) (pc' := 325) rfl (hb hby own_h441) rfl (own_icT_ne c262) (by decide) (by decide) ?_
          refine XS.iloadN X0.here hx rfl (hb hby own_h490) rfl ?_
          refine XS.bipush X0.here hx rfl (hb hby own_h491) ?_
          exact hh)
         clear k91
         by_cases c328 : nv = (8 : Int32)
         ·
          have k113 : own_J p e below s₁ m 331 #[.val (.ref b), .val (.int nv)] [] B_ := fun t_ hh => k112 t_ (by
           refine XS.icmpNo X0.here hx rfl (hb hby own_h492) rfl (own_icF_ne c328) ?_
           exact hh)
          clear k112
          obtain ⟨T1536, h1537, X1538, e1539, E1540, A1541, D1542, U1544, st1543⟩ := newO X0 hx hZ hown (wT hw 23 rfl) (wT hw 24 rfl) (wT hw 25 rfl) e0 (g := (mkF m 331 #[.val (.ref b), .val (.int nv)] [])) rfl (hb hby own_h493) (by decide) (by decide)
          obtain ⟨a1545, g1546⟩ : ∃ z, z = h0.size := ⟨_, rfl⟩
          rw [← g1546] at A1541 D1542 U1544 st1543
          have H01547 : h0.size ≤ a1545 := Nat.le_trans K0.1 (Nat.le_of_eq g1546.symm)
          have G1548 : n0 ≤ a1545 := Nat.le_trans Z0 (Nat.le_of_eq g1546.symm)
          have hk1549 := Nat.le_trans hk0 E1540.1
          have Sf1550 := Safe.ext E1540 Cr0.1 (Safe.new (x := a1545) (Nat.le_of_eq g1546.symm))
          have F1551 := Fb.ext E1540
          have Z1552 : n0 ≤ h1537.size := Nat.le_trans Z0 E1540.1
          have O1553 := O0.ext E1540
          have P1554 : Keep h0 h1537 [] := K0.ext E1540
          have Cr1555 := Cr0.trans (CHr.ext E1540 Cr0.1)
          have F1556 : Fld Z h1537 a1545 "java/lang/String" "coder" "B" (.int (0 : Int32)) := D1542 (Or.inr (wT hw 49 rfl)) (ty := .byte) (by decide)
          have F1557 : Fld Z h1537 a1545 "java/lang/String" "value" "[B" .null := D1542 (Or.inr (wT hw 51 rfl)) (ty := .array .byte) (by decide)
          have k114 : own_J p e below T1536 m 334 #[.val (.ref b), .val (.int nv)] [(.ref a1545)] B_ := fun t_ hh => k113 t_ (st1543 t_ hh)
          clear k113 st1543
          have k115 : own_J p e below T1536 m 337 #[.val (.ref b), .val (.int nv)] [(.int (8 : Int32)), (.ref a1545), (.ref a1545)] B_ := fun t_ hh => k114 t_ (by
           refine XS.dup X1538.here hx rfl (hb hby own_h494) rfl rfl ?_
           refine XS.bipush X1538.here hx rfl (hb hby own_h495) ?_
           exact hh)
          clear k114
          obtain ⟨T1558, h1559, kA1560, X1561, e1562, E1563, A1564, st1566⟩ := newP X1538 hx hZ (wT hw 15 rfl) e1539 (g := (mkF m 337 #[.val (.ref b), .val (.int nv)] [(.int (8 : Int32)), (.ref a1545), (.ref a1545)])) rfl (hb hby own_h496) rfl (by decide) (cap := 8) (by decide) (by decide) (by decide) (by decide)
          obtain ⟨a1567, g1568⟩ : ∃ z, z = h1537.size := ⟨_, rfl⟩
          rw [← g1568] at A1564 st1566
          have H01569 : h0.size ≤ a1567 := Nat.le_trans P1554.1 (Nat.le_of_eq g1568.symm)
          have G1570 : n0 ≤ a1567 := Nat.le_trans Z1552 (Nat.le_of_eq g1568.symm)
          have hk1571 := Nat.le_trans hk1549 E1563.1
          have Sf1572 := Safe.ext E1563 Cr1555.1 (Safe.new (x := a1567) (Nat.le_of_eq g1568.symm))
          have F1573 := F1551.ext E1563
          have F1574 := Exa.ext (h' := h1559) E1563 A1541
          have F1575 := Fld.ext (h' := h1559) E1563 F1556
          have F1576 := Fld.ext (h' := h1559) E1563 F1557
          have Z1577 : n0 ≤ h1559.size := Nat.le_trans Z1552 E1563.1
          have O1578 := O1553.ext E1563
          have P1579 : Keep h0 h1559 [] := P1554.ext E1563
          have Sf1580 := Safe.ext E1563 Cr1555.1 Sf1550
          have Cr1581 := Cr1555.trans (CHr.ext E1563 Cr1555.1)
          have V1582 : Arv Z h1559 a1567 kA1560 .char (8 : Int32) [(.int (0 : Int32)), (.int (0 : Int32)), (.int (0 : Int32)), (.int (0 : Int32)), (.int (0 : Int32)), (.int (0 : Int32)), (.int (0 : Int32)), (.int (0 : Int32))] (.int (0 : Int32)) := Arv.pad (Arv.new A1564 (by decide)) (pad_rep [] (.int (0 : Int32)) 8)
          have k116 : own_J p e below T1558 m 339 #[.val (.ref b), .val (.int nv)] [(.ref a1567), (.ref a1545), (.ref a1545)] B_ := fun t_ hh => k115 t_ (st1566 t_ hh)
          clear k115 st1566 X1538 e1539
          have k117 : own_J p e below T1558 m 344 #[.val (.ref b), .val (.int nv)] [(.int b3), (.int (0 : Int32)), (.ref a1567), (.ref a1567), (.ref a1545), (.ref a1545)] B_ := fun t_ hh => k116 t_ (by
           refine XS.dup X1561.here hx rfl (hb hby own_h497) rfl rfl ?_
           refine XS.iconst X1561.here hx rfl (hb hby own_h498) ?_
           refine XS.aloadN X1561.here hx rfl (hb hby own_h499) rfl rfl ?_
           refine XS.iconst X1561.here hx rfl (hb hby own_h500) ?_
           refine own_caload X1561 hx hZ e1562 F1573 (j := (3 : Int32)) (v := (.int b3)) (by decide) rfl (g := (mkF m 343 #[.val (.ref b), .val (.int nv)] [(.int (3 : Int32)), (.ref b), (.int (0 : Int32)), (.ref a1567), (.ref a1567), (.ref a1545), (.ref a1545)])) rfl rfl (hb hby own_h501) _ ?_
           exact hh)
          clear k116
          obtain ⟨cl1583, Ar1584, q1585, S1586, Ng1587, H1588, Gf1589⟩ := id V1582
          have hin1590 := inb_of (j := (0 : Int32)) S1586 (by decide)
          obtain ⟨T1591, h1592, X1593, e1594, W1595, st1596⟩ := stC X1561 hx hZ e1562 Ar1584 (j := (0 : Int32)) hin1590 (g := (mkF m 344 #[.val (.ref b), .val (.int nv)] [(.int b3), (.int (0 : Int32)), (.ref a1567), (.ref a1567), (.ref a1545), (.ref a1545)])) rfl rfl (hb hby own_h502)
          have N1597 := Fr.snoc X1593 N0 G1570
          have K1598 : Keep h1559 h1592 [a1567] := Keep.of_wr W1595
          have V1599 := Arv.set Ar1584 q1585 S1586 Ng1587 H1588 Gf1589 (v := (.int (nar .char b3))) (fits_nar_char _) W1595 0 rfl (own_lt rfl)
          have k118 : own_J p e below T1591 m 345 #[.val (.ref b), .val (.int nv)] [(.ref a1567), (.ref a1545), (.ref a1545)] B_ := fun t_ hh => k117 t_ (st1596 t_ hh)
          clear k117 st1596 X1561 e1562 cl1583 Ar1584 q1585 S1586 Ng1587 H1588 Gf1589 hin1590 W1595 V1582
          have ne1600 : b ≠ a1567 := by rw [g1568]; exact Nat.ne_of_lt F1551.lt
          have k119 : own_J p e below T1591 m 350 #[.val (.ref b), .val (.int nv)] [(.int b4), (.int (1 : Int32)), (.ref a1567), (.ref a1567), (.ref a1545), (.ref a1545)] B_ := fun t_ hh => k118 t_ (by
           refine XS.dup X1593.here hx rfl (hb hby own_h503) rfl rfl ?_
           refine XS.iconst X1593.here hx rfl (hb hby own_h504) ?_
           refine XS.aloadN X1593.here hx rfl (hb hby own_h505) rfl rfl ?_
           refine XS.iconst X1593.here hx rfl (hb hby own_h506) ?_
           refine own_caload X1593 hx hZ e1594 (Arv.keep F1573 K1598 (ninS ne1600 nin0)) (j := (4 : Int32)) (v := (.int b4)) (by decide) rfl (g := (mkF m 349 #[.val (.ref b), .val (.int nv)] [(.int (4 : Int32)), (.ref b), (.int (1 : Int32)), (.ref a1567), (.ref a1567), (.ref a1545), (.ref a1545)])) rfl rfl (hb hby own_h507) _ ?_
           exact hh)
          clear k118
          obtain ⟨cl1601, Ar1602, q1603, S1604, Ng1605, H1606, Gf1607⟩ := id V1599
          have hin1608 := inb_of (j := (1 : Int32)) S1604 (by decide)
          obtain ⟨T1609, h1610, X1611, e1612, W1613, st1614⟩ := stC X1593 hx hZ e1594 Ar1602 (j := (1 : Int32)) hin1608 (g := (mkF m 350 #[.val (.ref b), .val (.int nv)] [(.int b4), (.int (1 : Int32)), (.ref a1567), (.ref a1567), (.ref a1545), (.ref a1545)])) rfl rfl (hb hby own_h508)
          have N1615 := Fr.snoc X1611 N1597 G1570
          have K1616 : Keep h1559 h1610 [a1567] := K1598.wr W1613 own_m0
          have V1617 := Arv.set Ar1602 q1603 S1604 Ng1605 H1606 Gf1607 (v := (.int (nar .char b4))) (fits_nar_char _) W1613 1 rfl (own_lt rfl)
          have k120 : own_J p e below T1609 m 351 #[.val (.ref b), .val (.int nv)] [(.ref a1567), (.ref a1545), (.ref a1545)] B_ := fun t_ hh => k119 t_ (st1614 t_ hh)
          clear k119 st1614 X1593 e1594 cl1601 Ar1602 q1603 S1604 Ng1605 H1606 Gf1607 hin1608 W1613 K1598 V1599 N1597
          have k121 : own_J p e below T1609 m 356 #[.val (.ref b), .val (.int nv)] [(.int b5), (.int (2 : Int32)), (.ref a1567), (.ref a1567), (.ref a1545), (.ref a1545)] B_ := fun t_ hh => k120 t_ (by
           refine XS.dup X1611.here hx rfl (hb hby own_h509) rfl rfl ?_
           refine XS.iconst X1611.here hx rfl (hb hby own_h510) ?_
           refine XS.aloadN X1611.here hx rfl (hb hby own_h511) rfl rfl ?_
           refine XS.iconst X1611.here hx rfl (hb hby own_h512) ?_
           refine own_caload X1611 hx hZ e1612 (Arv.keep F1573 K1616 (ninS ne1600 nin0)) (j := (5 : Int32)) (v := (.int b5)) (by decide) rfl (g := (mkF m 355 #[.val (.ref b), .val (.int nv)] [(.int (5 : Int32)), (.ref b), (.int (2 : Int32)), (.ref a1567), (.ref a1567), (.ref a1545), (.ref a1545)])) rfl rfl (hb hby own_h513) _ ?_
           exact hh)
          clear k120
          obtain ⟨cl1618, Ar1619, q1620, S1621, Ng1622, H1623, Gf1624⟩ := id V1617
          have hin1625 := inb_of (j := (2 : Int32)) S1621 (by decide)
          obtain ⟨T1626, h1627, X1628, e1629, W1630, st1631⟩ := stC X1611 hx hZ e1612 Ar1619 (j := (2 : Int32)) hin1625 (g := (mkF m 356 #[.val (.ref b), .val (.int nv)] [(.int b5), (.int (2 : Int32)), (.ref a1567), (.ref a1567), (.ref a1545), (.ref a1545)])) rfl rfl (hb hby own_h514)
          have N1632 := Fr.snoc X1628 N1615 G1570
          have K1633 : Keep h1559 h1627 [a1567] := K1616.wr W1630 own_m0
          have V1634 := Arv.set Ar1619 q1620 S1621 Ng1622 H1623 Gf1624 (v := (.int (nar .char b5))) (fits_nar_char _) W1630 2 rfl (own_lt rfl)
          have k122 : own_J p e below T1626 m 357 #[.val (.ref b), .val (.int nv)] [(.ref a1567), (.ref a1545), (.ref a1545)] B_ := fun t_ hh => k121 t_ (st1631 t_ hh)
          clear k121 st1631 X1611 e1612 cl1618 Ar1619 q1620 S1621 Ng1622 H1623 Gf1624 hin1625 W1630 K1616 V1617 N1615
          have k123 : own_J p e below T1626 m 363 #[.val (.ref b), .val (.int nv)] [(.int b6), (.int (3 : Int32)), (.ref a1567), (.ref a1567), (.ref a1545), (.ref a1545)] B_ := fun t_ hh => k122 t_ (by
           refine XS.dup X1628.here hx rfl (hb hby own_h515) rfl rfl ?_
           refine XS.iconst X1628.here hx rfl (hb hby own_h516) ?_
           refine XS.aloadN X1628.here hx rfl (hb hby own_h517) rfl rfl ?_
           refine XS.bipush X1628.here hx rfl (hb hby own_h518) ?_
           refine own_caload X1628 hx hZ e1629 (Arv.keep F1573 K1633 (ninS ne1600 nin0)) (j := (6 : Int32)) (v := (.int b6)) (by decide) rfl (g := (mkF m 362 #[.val (.ref b), .val (.int nv)] [(.int (6 : Int32)), (.ref b), (.int (3 : Int32)), (.ref a1567), (.ref a1567), (.ref a1545), (.ref a1545)])) rfl rfl (hb hby own_h519) _ ?_
           exact hh)
          clear k122
          obtain ⟨cl1635, Ar1636, q1637, S1638, Ng1639, H1640, Gf1641⟩ := id V1634
          have hin1642 := inb_of (j := (3 : Int32)) S1638 (by decide)
          obtain ⟨T1643, h1644, X1645, e1646, W1647, st1648⟩ := stC X1628 hx hZ e1629 Ar1636 (j := (3 : Int32)) hin1642 (g := (mkF m 363 #[.val (.ref b), .val (.int nv)] [(.int b6), (.int (3 : Int32)), (.ref a1567), (.ref a1567), (.ref a1545), (.ref a1545)])) rfl rfl (hb hby own_h520)
          have N1649 := Fr.snoc X1645 N1632 G1570
          have K1650 : Keep h1559 h1644 [a1567] := K1633.wr W1647 own_m0
          have V1651 := Arv.set Ar1636 q1637 S1638 Ng1639 H1640 Gf1641 (v := (.int (nar .char b6))) (fits_nar_char _) W1647 3 rfl (own_lt rfl)
          have k124 : own_J p e below T1643 m 364 #[.val (.ref b), .val (.int nv)] [(.ref a1567), (.ref a1545), (.ref a1545)] B_ := fun t_ hh => k123 t_ (st1648 t_ hh)
          clear k123 st1648 X1628 e1629 cl1635 Ar1636 q1637 S1638 Ng1639 H1640 Gf1641 hin1642 W1647 K1633 V1634 N1632
          have k125 : own_J p e below T1643 m 370 #[.val (.ref b), .val (.int nv)] [(.int b7), (.int (4 : Int32)), (.ref a1567), (.ref a1567), (.ref a1545), (.ref a1545)] B_ := fun t_ hh => k124 t_ (by
           refine XS.dup X1645.here hx rfl (hb hby own_h521) rfl rfl ?_
           refine XS.iconst X1645.here hx rfl (hb hby own_h522) ?_
           refine XS.aloadN X1645.here hx rfl (hb hby own_h523) rfl rfl ?_
           refine XS.bipush X1645.here hx rfl (hb hby own_h524) ?_
           refine own_caload X1645 hx hZ e1646 (Arv.keep F1573 K1650 (ninS ne1600 nin0)) (j := (7 : Int32)) (v := (.int b7)) (by decide) rfl (g := (mkF m 369 #[.val (.ref b), .val (.int nv)] [(.int (7 : Int32)), (.ref b), (.int (4 : Int32)), (.ref a1567), (.ref a1567), (.ref a1545), (.ref a1545)])) rfl rfl (hb hby own_h525) _ ?_
           exact hh)
          clear k124
          obtain ⟨cl1652, Ar1653, q1654, S1655, Ng1656, H1657, Gf1658⟩ := id V1651
          have hin1659 := inb_of (j := (4 : Int32)) S1655 (by decide)
          obtain ⟨T1660, h1661, X1662, e1663, W1664, st1665⟩ := stC X1645 hx hZ e1646 Ar1653 (j := (4 : Int32)) hin1659 (g := (mkF m 370 #[.val (.ref b), .val (.int nv)] [(.int b7), (.int (4 : Int32)), (.ref a1567), (.ref a1567), (.ref a1545), (.ref a1545)])) rfl rfl (hb hby own_h526)
          have N1666 := Fr.snoc X1662 N1649 G1570
          have K1667 : Keep h1559 h1661 [a1567] := K1650.wr W1664 own_m0
          have V1668 := Arv.set Ar1653 q1654 S1655 Ng1656 H1657 Gf1658 (v := (.int (nar .char b7))) (fits_nar_char _) W1664 4 rfl (own_lt rfl)
          have k126 : own_J p e below T1660 m 371 #[.val (.ref b), .val (.int nv)] [(.ref a1567), (.ref a1545), (.ref a1545)] B_ := fun t_ hh => k125 t_ (st1665 t_ hh)
          clear k125 st1665 X1645 e1646 cl1652 Ar1653 q1654 S1655 Ng1656 H1657 Gf1658 hin1659 W1664 K1650 V1651 N1649
          have k127 : own_J p e below T1660 m 377 #[.val (.ref b), .val (.int nv)] [(.int b8), (.int (5 : Int32)), (.ref a1567), (.ref a1567), (.ref a1545), (.ref a1545)] B_ := fun t_ hh => k126 t_ (by
           refine XS.dup X1662.here hx rfl (hb hby own_h527) rfl rfl ?_
           refine XS.iconst X1662.here hx rfl (hb hby own_h528) ?_
           refine XS.aloadN X1662.here hx rfl (hb hby own_h529) rfl rfl ?_
           refine XS.bipush X1662.here hx rfl (hb hby own_h530) ?_
           refine own_caload X1662 hx hZ e1663 (Arv.keep F1573 K1667 (ninS ne1600 nin0)) (j := (8 : Int32)) (v := (.int b8)) (by decide) rfl (g := (mkF m 376 #[.val (.ref b), .val (.int nv)] [(.int (8 : Int32)), (.ref b), (.int (5 : Int32)), (.ref a1567), (.ref a1567), (.ref a1545), (.ref a1545)])) rfl rfl (hb hby own_h531) _ ?_
           exact hh)
          clear k126
          obtain ⟨cl1669, Ar1670, q1671, S1672, Ng1673, H1674, Gf1675⟩ := id V1668
          have hin1676 := inb_of (j := (5 : Int32)) S1672 (by decide)
          obtain ⟨T1677, h1678, X1679, e1680, W1681, st1682⟩ := stC X1662 hx hZ e1663 Ar1670 (j := (5 : Int32)) hin1676 (g := (mkF m 377 #[.val (.ref b), .val (.int nv)] [(.int b8), (.int (5 : Int32)), (.ref a1567), (.ref a1567), (.ref a1545), (.ref a1545)])) rfl rfl (hb hby own_h532)
          have N1683 := Fr.snoc X1679 N1666 G1570
          have K1684 : Keep h1559 h1678 [a1567] := K1667.wr W1681 own_m0
          have V1685 := Arv.set Ar1670 q1671 S1672 Ng1673 H1674 Gf1675 (v := (.int (nar .char b8))) (fits_nar_char _) W1681 5 rfl (own_lt rfl)
          have k128 : own_J p e below T1677 m 378 #[.val (.ref b), .val (.int nv)] [(.ref a1567), (.ref a1545), (.ref a1545)] B_ := fun t_ hh => k127 t_ (st1682 t_ hh)
          clear k127 st1682 X1662 e1663 cl1669 Ar1670 q1671 S1672 Ng1673 H1674 Gf1675 hin1676 W1681 K1667 V1668 N1666
          have k129 : own_J p e below T1677 m 385 #[.val (.ref b), .val (.int nv)] [(.int b9), (.int (6 : Int32)), (.ref a1567), (.ref a1567), (.ref a1545), (.ref a1545)] B_ := fun t_ hh => k128 t_ (by
           refine XS.dup X1679.here hx rfl (hb hby own_h533) rfl rfl ?_
           refine XS.bipush X1679.here hx rfl (hb hby own_h534) ?_
           refine XS.aloadN X1679.here hx rfl (hb hby own_h535) rfl rfl ?_
           refine XS.bipush X1679.here hx rfl (hb hby own_h536) ?_
           refine own_caload X1679 hx hZ e1680 (Arv.keep F1573 K1684 (ninS ne1600 nin0)) (j := (9 : Int32)) (v := (.int b9)) (by decide) rfl (g := (mkF m 384 #[.val (.ref b), .val (.int nv)] [(.int (9 : Int32)), (.ref b), (.int (6 : Int32)), (.ref a1567), (.ref a1567), (.ref a1545), (.ref a1545)])) rfl rfl (hb hby own_h537) _ ?_
           exact hh)
          clear k128
          obtain ⟨cl1686, Ar1687, q1688, S1689, Ng1690, H1691, Gf1692⟩ := id V1685
          have hin1693 := inb_of (j := (6 : Int32)) S1689 (by decide)
          obtain ⟨T1694, h1695, X1696, e1697, W1698, st1699⟩ := stC X1679 hx hZ e1680 Ar1687 (j := (6 : Int32)) hin1693 (g := (mkF m 385 #[.val (.ref b), .val (.int nv)] [(.int b9), (.int (6 : Int32)), (.ref a1567), (.ref a1567), (.ref a1545), (.ref a1545)])) rfl rfl (hb hby own_h538)
          have N1700 := Fr.snoc X1696 N1683 G1570
          have K1701 : Keep h1559 h1695 [a1567] := K1684.wr W1698 own_m0
          have V1702 := Arv.set Ar1687 q1688 S1689 Ng1690 H1691 Gf1692 (v := (.int (nar .char b9))) (fits_nar_char _) W1698 6 rfl (own_lt rfl)
          have k130 : own_J p e below T1694 m 386 #[.val (.ref b), .val (.int nv)] [(.ref a1567), (.ref a1545), (.ref a1545)] B_ := fun t_ hh => k129 t_ (st1699 t_ hh)
          clear k129 st1699 X1679 e1680 cl1686 Ar1687 q1688 S1689 Ng1690 H1691 Gf1692 hin1693 W1698 K1684 V1685 N1683
          have k131 : own_J p e below T1694 m 393 #[.val (.ref b), .val (.int nv)] [(.int b10), (.int (7 : Int32)), (.ref a1567), (.ref a1567), (.ref a1545), (.ref a1545)] B_ := fun t_ hh => k130 t_ (by
           refine XS.dup X1696.here hx rfl (hb hby own_h539) rfl rfl ?_
           refine XS.bipush X1696.here hx rfl (hb hby own_h540) ?_
           refine XS.aloadN X1696.here hx rfl (hb hby own_h541) rfl rfl ?_
           refine XS.bipush X1696.here hx rfl (hb hby own_h542) ?_
           refine own_caload X1696 hx hZ e1697 (Arv.keep F1573 K1701 (ninS ne1600 nin0)) (j := (10 : Int32)) (v := (.int b10)) (by decide) rfl (g := (mkF m 392 #[.val (.ref b), .val (.int nv)] [(.int (10 : Int32)), (.ref b), (.int (7 : Int32)), (.ref a1567), (.ref a1567), (.ref a1545), (.ref a1545)])) rfl rfl (hb hby own_h543) _ ?_
           exact hh)
          clear k130
          obtain ⟨cl1703, Ar1704, q1705, S1706, Ng1707, H1708, Gf1709⟩ := id V1702
          have hin1710 := inb_of (j := (7 : Int32)) S1706 (by decide)
          obtain ⟨T1711, h1712, X1713, e1714, W1715, st1716⟩ := stC X1696 hx hZ e1697 Ar1704 (j := (7 : Int32)) hin1710 (g := (mkF m 393 #[.val (.ref b), .val (.int nv)] [(.int b10), (.int (7 : Int32)), (.ref a1567), (.ref a1567), (.ref a1545), (.ref a1545)])) rfl rfl (hb hby own_h544)
          have N1717 := Fr.snoc X1713 N1700 G1570
          have K1718 : Keep h1559 h1712 [a1567] := K1701.wr W1715 own_m0
          have V1719 := Arv.set Ar1704 q1705 S1706 Ng1707 H1708 Gf1709 (v := (.int (nar .char b10))) (fits_nar_char _) W1715 7 rfl (own_lt rfl)
          have k132 : own_J p e below T1711 m 394 #[.val (.ref b), .val (.int nv)] [(.ref a1567), (.ref a1545), (.ref a1545)] B_ := fun t_ hh => k131 t_ (st1716 t_ hh)
          clear k131 st1716 X1696 e1697 cl1703 Ar1704 q1705 S1706 Ng1707 H1708 Gf1709 hin1710 W1715 K1701 V1702 N1700
          have V1720 : Arv Z h1712 a1567 kA1560 .char (8 : Int32) [(.int (nar .char b3)), (.int (nar .char b4)), (.int (nar .char b5)), (.int (nar .char b6)), (.int (nar .char b7)), (.int (nar .char b8)), (.int (nar .char b9)), (.int (nar .char b10))] (.int (0 : Int32)) := V1719
          have F1721 := F1573.keep K1718 (ninS ne1600 nin0)
          have F1722 := F1574.keep K1718
          have ne1724 : a1545 ≠ a1567 := by rw [g1568]; exact Nat.ne_of_lt A1541.lt
          have F1723 := F1575.keep K1718 (ninS ne1724 nin0)
          have F1725 := F1576.keep K1718 (ninS ne1724 nin0)
          have Z1726 : n0 ≤ h1712.size := Nat.le_trans Z1577 K1718.1
          have hk1727 := Nat.le_trans hk1571 K1718.1
          have Sf1728 := Safe.keep K1718 (allS Sf1572 all0) Cr1581.1 Sf1580
          have Sf1729 := Safe.keep K1718 (allS Sf1572 all0) Cr1581.1 Sf1572
          have Cr1730 := Cr1581.trans (CHr.keep K1718 (allS Sf1572 all0) Cr1581.1)
          have O1731 := O1578.keep K1718 (allS G1570 all0)
          have P1732 : Keep h0 h1712 [] := P1579.trans K1718 (allS (P := fun x => x ∈ [] ∨ h0.size ≤ x) (Or.inr H01569) all0)
          have F1733 : Arv Z h1712 a1567 kA1560 .char (Int32.ofNat 8) (([b3, b4, b5, b6, b7, b8, b9, b10] : List Int32).map Value.int) (.int 0) := by have q := V1720; simp only [e3_, e4_, e5_, e6_, e7_, e8_, e9_, e10_] at q; exact q
          have hcs1734 : own_chs ([b3, b4, b5, b6, b7, b8, b9, b10] : List Int32) := own_chs_drop (cs := [b0, b1, b2, b3, b4, b5, b6, b7, b8, b9, b10]) 3 hbc
          by_cases hA : ∀ c ∈ ([b3, b4, b5, b6, b7, b8, b9, b10] : List Int32), ¬ (255 : Int32) < c
          ·
           obtain ⟨_, _, ⟨T1735, L1736, k_1737, n_1738⟩, -, X1739, ⟨Lc1740, hQ1741, l_1742, y_1743, z_1744⟩, st1745⟩ := X1713.specialBack hx (y := (⟨"java/lang/String", "<init>", "([C)V"⟩ : MethodName)) rfl hown (mvT hZ (wT hw 26 rfl)) (mvT hZ (wT hw 27 rfl)) (mvT hZ (wT hw 28 rfl)) (by decide) (StrChars.Road.backV (W := 1) hZ (fun d hd => hw d (own_sub_words d hd)) (kI := 4) (wT hw 24 rfl) (cs := ([b3, b4, b5, b6, b7, b8, b9, b10] : List Int32)) (n0 := n0) G1548 Z1726 F1722 F1725 F1723 F1733 (Sta.ext O1731.2 sC) hc rfl rfl (own_lt rfl) (own_l rfl) (own_b8s hcs1734 hA) rfl (by decide) (by decide)) (g := (mkF m 394 #[.val (.ref b), .val (.int nv)] [(.ref a1567), (.ref a1545), (.ref a1545)])) rfl (by rw [hml]; rfl) (Steps.refl _) (a := a1545) (argsL := [(.ref a1567)]) (rest := [(.ref a1545)]) (lenOf own_h257 rfl) rfl (by show 2 * 0 + _ ≤ _; exact Nat.le_of_eq rfl) (hb hby own_h545) (fun _ _ => ⟨rfl, e1714, own_l rfl, own_l rfl⟩)
           dsimp only [Pt.U, Pt.locs, Pt.cells, Pt.slots] at X1739 l_1742 y_1743 z_1744 st1745 hQ1741
           replace l_1742 := l_1742.symm
           subst l_1742 y_1743 z_1744
           obtain ⟨rfl, N1746, K1747, E1748, F1749, t1750, kb1751, G1752, G1753, G1754, F1755, F1756⟩ := hQ1741
           have N1757 := Fr.app N1717 N1746
           have ne1759 : b ≠ a1545 := by rw [g1546]; exact Nat.ne_of_lt Fb.lt
           have F1758 := F1721.keep K1747 (ninS ne1759 nin0)
           have F1760 := F1722.keep K1747
           have F1761 := F1733.keep K1747 (ninS (Ne.symm ne1724) nin0)
           have Z1762 : n0 ≤ T1735.heap.size := Nat.le_trans Z1726 K1747.1
           have hk1763 := Nat.le_trans hk1727 K1747.1
           have Sf1764 := Safe.keep K1747 (allS Sf1728 all0) Cr1730.1 Sf1728
           have Sf1765 := Safe.keep K1747 (allS Sf1728 all0) Cr1730.1 Sf1729
           have Cr1766 := Cr1730.trans (CHr.keep K1747 (allS Sf1728 all0) Cr1730.1)
           have O1767 := O1731.keep K1747 (allS G1548 all0)
           have P1768 : Keep h0 T1735.heap [] := P1732.trans K1747 (allS (P := fun x => x ∈ [] ∨ h0.size ≤ x) (Or.inr H01547) all0)
           have S1769 : own_Str Z T1735.heap a1545 t1750 kb1751 ([b3, b4, b5, b6, b7, b8, b9, b10] : List Int32) := ⟨E1748, F1755, F1749, F1756⟩
           have e1770 : T1735.heap = T1735.heap := rfl
           have k133 : own_J p e below T1735 m 397 #[.val (.ref b), .val (.int nv)] [(.ref a1545)] B_ := fun t_ hh => k132 t_ (st1745.trans hh)
           clear k132 st1745 X1713 e1714
           obtain ⟨fs, hr, hrun, hended, hEnd⟩ := X1739.leaveW hS0 (by rw [e1770]; exact hk1763) (v := some (.ref a1545)) (fun h => by rw [Bd.returns] at h; cases h)
           refine ⟨_, _, (own_from hB_ (k133 _ (retOut X1739 hx (t := .object "java/lang/String") Bd.returns rfl (Or.inr (Or.inr (Or.inr (Or.inr ⟨rfl, rfl, rfl⟩)))) (hb hby own_h546) hr))), hrun, hended, _, _, rfl, ?_, ?_, hEnd.1, hEnd.2.1, hEnd.2.2.1, hEnd.2.2.2.mono (own_l rfl) (own_l rfl)⟩
           rotate_left
           · show CHr Z own_EL s.vm s.heap T1735.vm T1735.heap
             rw [hh, e1770]
             exact Cr1766.trans (CHv.at X1739 hZ (own_EW hw) Cr1766.1)
           show Q_mk Z nv b0 b1 b2 b3 b4 b5 b6 b7 b8 b9 b10 h0 n0 _ T1735.heap _
           rw [e1770]
           exact ⟨a1545, rfl, N1757, P1768, G1548, E1748, by rw [c328]; exact (Or.inl ⟨t1750, kb1751, S1769, own_b8s hcs1734 hA⟩)⟩
          ·
           obtain ⟨k, hk, hkb, hlo⟩ := own_first _ hA
           obtain ⟨_, _, ⟨T1771, L1772, k_1773, n_1774⟩, -, X1775, ⟨Lc1776, hQ1777, l_1778, y_1779, z_1780⟩, st1781⟩ := X1713.specialBack hx (y := (⟨"java/lang/String", "<init>", "([C)V"⟩ : MethodName)) rfl hown (mvT hZ (wT hw 26 rfl)) (mvT hZ (wT hw 27 rfl)) (mvT hZ (wT hw 28 rfl)) (by decide) (backOf (W := 1) (rmI2 l Z a0 hw [] a1545 a1567 kA1560 ([b3, b4, b5, b6, b7, b8, b9, b10] : List Int32) k h1712 n0 Z1726 F1722 F1725 F1723 G1548 F1733 (own_l rfl) hcs1734 hk hkb hlo O1731 (Ne.symm ne1724) sA sH sL ci sC hc) hZ (wT hw 28 rfl) (wT hw 25 rfl) (by decide) (by decide)) (g := (mkF m 394 #[.val (.ref b), .val (.int nv)] [(.ref a1567), (.ref a1545), (.ref a1545)])) rfl (by rw [hml]; rfl) (Steps.refl _) (a := a1545) (argsL := [(.ref a1567)]) (rest := [(.ref a1545)]) (lenOf own_h257 rfl) rfl (by show 2 * 0 + _ ≤ _; exact Nat.le_of_eq rfl) (hb hby own_h545) (fun _ _ => ⟨rfl, e1714, own_l rfl, own_l rfl⟩)
           dsimp only [Pt.U, Pt.locs, Pt.cells, Pt.slots] at X1775 l_1778 y_1779 z_1780 st1781 hQ1777
           replace l_1778 := l_1778.symm
           subst l_1778 y_1779 z_1780
           obtain ⟨t1783, kt1784, ds1785, rfl, N1782, K1793, F1786, F1787, F1788, F1789, F1790, F1791, F1792, -⟩ := hQ1777
           have N1794 := Fr.app N1717 N1782
           have H01795 : h0.size ≤ t1783 := Nat.le_trans P1732.1 F1792
           have ne1797 : b ≠ a1545 := by rw [g1546]; exact Nat.ne_of_lt Fb.lt
           have F1796 := F1721.keep K1793 (ninS ne1797 nin0)
           have F1798 := F1722.keep K1793
           have F1799 := F1733.keep K1793 (ninS (Ne.symm ne1724) nin0)
           have Z1800 : n0 ≤ T1771.heap.size := Nat.le_trans Z1726 K1793.1
           have hk1801 := Nat.le_trans hk1727 K1793.1
           have Sf1802 := Safe.keep K1793 (allS Sf1728 all0) Cr1730.1 Sf1728
           have Sf1803 := Safe.keep K1793 (allS Sf1728 all0) Cr1730.1 Sf1729
           have Cr1804 := Cr1730.trans (CHr.keep K1793 (allS Sf1728 all0) Cr1730.1)
           have O1805 := O1731.keep K1793 (allS G1548 all0)
           have P1806 : Keep h0 T1771.heap [] := P1732.trans K1793 (allS (P := fun x => x ∈ [] ∨ h0.size ≤ x) (Or.inr H01547) all0)
           have e1807 : T1771.heap = T1771.heap := rfl
           have k134 : own_J p e below T1771 m 397 #[.val (.ref b), .val (.int nv)] [(.ref a1545)] B_ := fun t_ hh => k132 t_ (st1781.trans hh)
           clear k132 st1781 X1713 e1714
           obtain ⟨fs, hr, hrun, hended, hEnd⟩ := X1775.leaveW hS0 (by rw [e1807]; exact hk1801) (v := some (.ref a1545)) (fun h => by rw [Bd.returns] at h; cases h)
           refine ⟨_, _, (own_from hB_ (k134 _ (retOut X1775 hx (t := .object "java/lang/String") Bd.returns rfl (Or.inr (Or.inr (Or.inr (Or.inr ⟨rfl, rfl, rfl⟩)))) (hb hby own_h546) hr))), hrun, hended, _, _, rfl, ?_, ?_, hEnd.1, hEnd.2.1, hEnd.2.2.1, hEnd.2.2.2.mono (own_l rfl) (own_l rfl)⟩
           rotate_left
           · show CHr Z own_EL s.vm s.heap T1771.vm T1771.heap
             rw [hh, e1807]
             exact Cr1804.trans (CHv.at X1775 hZ (own_EW hw) Cr1804.1)
           show Q_mk Z nv b0 b1 b2 b3 b4 b5 b6 b7 b8 b9 b10 h0 n0 _ T1771.heap _
           rw [e1807]
           exact ⟨a1545, rfl, N1794, P1806, G1548, F1786, by rw [c328]; exact (Or.inr ⟨t1783, kt1784, ds1785, F1786, F1787, F1788, F1789, F1790⟩)⟩
         ·
          have k135 : own_J p e below s₁ m 401 #[.val (.ref b), .val (.int nv)] [(.int (9 : Int32)), (.int nv)] B_ := fun t_ hh => k112 t_ (by
           refine XS.icmpYes X0.here hx rfl (pc0 := 328) (pc' := 398) rfl (hb hby own_h492) rfl (own_icT_ne c328) (by decide) (by decide) ?_
           refine XS.iloadN X0.here hx rfl (hb hby own_h547) rfl ?_
           refine XS.bipush X0.here hx rfl (hb hby own_h548) ?_
           exact hh)
          clear k112
          by_cases c401 : nv = (9 : Int32)
          ·
           have k136 : own_J p e below s₁ m 404 #[.val (.ref b), .val (.int nv)] [] B_ := fun t_ hh => k135 t_ (by
            refine XS.icmpNo X0.here hx rfl (hb hby own_h549) rfl (own_icF_ne c401) ?_
            exact hh)
           clear k135
           obtain ⟨T1808, h1809, X1810, e1811, E1812, A1813, D1814, U1816, st1815⟩ := newO X0 hx hZ hown (wT hw 23 rfl) (wT hw 24 rfl) (wT hw 25 rfl) e0 (g := (mkF m 404 #[.val (.ref b), .val (.int nv)] [])) rfl (hb hby own_h550) (by decide) (by decide)
           obtain ⟨a1817, g1818⟩ : ∃ z, z = h0.size := ⟨_, rfl⟩
           rw [← g1818] at A1813 D1814 U1816 st1815
           have H01819 : h0.size ≤ a1817 := Nat.le_trans K0.1 (Nat.le_of_eq g1818.symm)
           have G1820 : n0 ≤ a1817 := Nat.le_trans Z0 (Nat.le_of_eq g1818.symm)
           have hk1821 := Nat.le_trans hk0 E1812.1
           have Sf1822 := Safe.ext E1812 Cr0.1 (Safe.new (x := a1817) (Nat.le_of_eq g1818.symm))
           have F1823 := Fb.ext E1812
           have Z1824 : n0 ≤ h1809.size := Nat.le_trans Z0 E1812.1
           have O1825 := O0.ext E1812
           have P1826 : Keep h0 h1809 [] := K0.ext E1812
           have Cr1827 := Cr0.trans (CHr.ext E1812 Cr0.1)
           have F1828 : Fld Z h1809 a1817 "java/lang/String" "coder" "B" (.int (0 : Int32)) := D1814 (Or.inr (wT hw 49 rfl)) (ty := .byte) (by decide)
           have F1829 : Fld Z h1809 a1817 "java/lang/String" "value" "[B" .null := D1814 (Or.inr (wT hw 51 rfl)) (ty := .array .byte) (by decide)
           have k137 : own_J p e below T1808 m 407 #[.val (.ref b), .val (.int nv)] [(.ref a1817)] B_ := fun t_ hh => k136 t_ (st1815 t_ hh)
           clear k136 st1815
           have k138 : own_J p e below T1808 m 410 #[.val (.ref b), .val (.int nv)] [(.int (9 : Int32)), (.ref a1817), (.ref a1817)] B_ := fun t_ hh => k137 t_ (by
            refine XS.dup X1810.here hx rfl (hb hby own_h551) rfl rfl ?_
            refine XS.bipush X1810.here hx rfl (hb hby own_h552) ?_
            exact hh)
           clear k137
           obtain ⟨T1830, h1831, kA1832, X1833, e1834, E1835, A1836, st1838⟩ := newP X1810 hx hZ (wT hw 15 rfl) e1811 (g := (mkF m 410 #[.val (.ref b), .val (.int nv)] [(.int (9 : Int32)), (.ref a1817), (.ref a1817)])) rfl (hb hby own_h553) rfl (by decide) (cap := 9) (by decide) (by decide) (by decide) (by decide)
           obtain ⟨a1839, g1840⟩ : ∃ z, z = h1809.size := ⟨_, rfl⟩
           rw [← g1840] at A1836 st1838
           have H01841 : h0.size ≤ a1839 := Nat.le_trans P1826.1 (Nat.le_of_eq g1840.symm)
           have G1842 : n0 ≤ a1839 := Nat.le_trans Z1824 (Nat.le_of_eq g1840.symm)
           have hk1843 := Nat.le_trans hk1821 E1835.1
           have Sf1844 := Safe.ext E1835 Cr1827.1 (Safe.new (x := a1839) (Nat.le_of_eq g1840.symm))
           have F1845 := F1823.ext E1835
           have F1846 := Exa.ext (h' := h1831) E1835 A1813
           have F1847 := Fld.ext (h' := h1831) E1835 F1828
           have F1848 := Fld.ext (h' := h1831) E1835 F1829
           have Z1849 : n0 ≤ h1831.size := Nat.le_trans Z1824 E1835.1
           have O1850 := O1825.ext E1835
           have P1851 : Keep h0 h1831 [] := P1826.ext E1835
           have Sf1852 := Safe.ext E1835 Cr1827.1 Sf1822
           have Cr1853 := Cr1827.trans (CHr.ext E1835 Cr1827.1)
           have V1854 : Arv Z h1831 a1839 kA1832 .char (9 : Int32) [(.int (0 : Int32)), (.int (0 : Int32)), (.int (0 : Int32)), (.int (0 : Int32)), (.int (0 : Int32)), (.int (0 : Int32)), (.int (0 : Int32)), (.int (0 : Int32)), (.int (0 : Int32))] (.int (0 : Int32)) := Arv.pad (Arv.new A1836 (by decide)) (pad_rep [] (.int (0 : Int32)) 9)
           have k139 : own_J p e below T1830 m 412 #[.val (.ref b), .val (.int nv)] [(.ref a1839), (.ref a1817), (.ref a1817)] B_ := fun t_ hh => k138 t_ (st1838 t_ hh)
           clear k138 st1838 X1810 e1811
           have k140 : own_J p e below T1830 m 417 #[.val (.ref b), .val (.int nv)] [(.int b2), (.int (0 : Int32)), (.ref a1839), (.ref a1839), (.ref a1817), (.ref a1817)] B_ := fun t_ hh => k139 t_ (by
            refine XS.dup X1833.here hx rfl (hb hby own_h554) rfl rfl ?_
            refine XS.iconst X1833.here hx rfl (hb hby own_h555) ?_
            refine XS.aloadN X1833.here hx rfl (hb hby own_h556) rfl rfl ?_
            refine XS.iconst X1833.here hx rfl (hb hby own_h557) ?_
            refine own_caload X1833 hx hZ e1834 F1845 (j := (2 : Int32)) (v := (.int b2)) (by decide) rfl (g := (mkF m 416 #[.val (.ref b), .val (.int nv)] [(.int (2 : Int32)), (.ref b), (.int (0 : Int32)), (.ref a1839), (.ref a1839), (.ref a1817), (.ref a1817)])) rfl rfl (hb hby own_h558) _ ?_
            exact hh)
           clear k139
           obtain ⟨cl1855, Ar1856, q1857, S1858, Ng1859, H1860, Gf1861⟩ := id V1854
           have hin1862 := inb_of (j := (0 : Int32)) S1858 (by decide)
           obtain ⟨T1863, h1864, X1865, e1866, W1867, st1868⟩ := stC X1833 hx hZ e1834 Ar1856 (j := (0 : Int32)) hin1862 (g := (mkF m 417 #[.val (.ref b), .val (.int nv)] [(.int b2), (.int (0 : Int32)), (.ref a1839), (.ref a1839), (.ref a1817), (.ref a1817)])) rfl rfl (hb hby own_h559)
           have N1869 := Fr.snoc X1865 N0 G1842
           have K1870 : Keep h1831 h1864 [a1839] := Keep.of_wr W1867
           have V1871 := Arv.set Ar1856 q1857 S1858 Ng1859 H1860 Gf1861 (v := (.int (nar .char b2))) (fits_nar_char _) W1867 0 rfl (own_lt rfl)
           have k141 : own_J p e below T1863 m 418 #[.val (.ref b), .val (.int nv)] [(.ref a1839), (.ref a1817), (.ref a1817)] B_ := fun t_ hh => k140 t_ (st1868 t_ hh)
           clear k140 st1868 X1833 e1834 cl1855 Ar1856 q1857 S1858 Ng1859 H1860 Gf1861 hin1862 W1867 V1854
           have ne1872 : b ≠ a1839 := by rw [g1840]; exact Nat.ne_of_lt F1823.lt
           have k142 : own_J p e below T1863 m 423 #[.val (.ref b), .val (.int nv)] [(.int b3), (.int (1 : Int32)), (.ref a1839), (.ref a1839), (.ref a1817), (.ref a1817)] B_ := fun t_ hh => k141 t_ (by
            refine XS.dup X1865.here hx rfl (hb hby own_h560) rfl rfl ?_
            refine XS.iconst X1865.here hx rfl (hb hby own_h561) ?_
            refine XS.aloadN X1865.here hx rfl (hb hby own_h562) rfl rfl ?_
            refine XS.iconst X1865.here hx rfl (hb hby own_h563) ?_
            refine own_caload X1865 hx hZ e1866 (Arv.keep F1845 K1870 (ninS ne1872 nin0)) (j := (3 : Int32)) (v := (.int b3)) (by decide) rfl (g := (mkF m 422 #[.val (.ref b), .val (.int nv)] [(.int (3 : Int32)), (.ref b), (.int (1 : Int32)), (.ref a1839), (.ref a1839), (.ref a1817), (.ref a1817)])) rfl rfl (hb hby own_h564) _ ?_
            exact hh)
           clear k141
           obtain ⟨cl1873, Ar1874, q1875, S1876, Ng1877, H1878, Gf1879⟩ := id V1871
           have hin1880 := inb_of (j := (1 : Int32)) S1876 (by decide)
           obtain ⟨T1881, h1882, X1883, e1884, W1885, st1886⟩ := stC X1865 hx hZ e1866 Ar1874 (j := (1 : Int32)) hin1880 (g := (mkF m 423 #[.val (.ref b), .val (.int nv)] [(.int b3), (.int (1 : Int32)), (.ref a1839), (.ref a1839), (.ref a1817), (.ref a1817)])) rfl rfl (hb hby own_h565)
           have N1887 := Fr.snoc X1883 N1869 G1842
           have K1888 : Keep h1831 h1882 [a1839] := K1870.wr W1885 own_m0
           have V1889 := Arv.set Ar1874 q1875 S1876 Ng1877 H1878 Gf1879 (v := (.int (nar .char b3))) (fits_nar_char _) W1885 1 rfl (own_lt rfl)
           have k143 : own_J p e below T1881 m 424 #[.val (.ref b), .val (.int nv)] [(.ref a1839), (.ref a1817), (.ref a1817)] B_ := fun t_ hh => k142 t_ (st1886 t_ hh)
           clear k142 st1886 X1865 e1866 cl1873 Ar1874 q1875 S1876 Ng1877 H1878 Gf1879 hin1880 W1885 K1870 V1871 N1869
           have k144 : own_J p e below T1881 m 429 #[.val (.ref b), .val (.int nv)] [(.int b4), (.int (2 : Int32)), (.ref a1839), (.ref a1839), (.ref a1817), (.ref a1817)] B_ := fun t_ hh => k143 t_ (by
            refine XS.dup X1883.here hx rfl (hb hby own_h566) rfl rfl ?_
            refine XS.iconst X1883.here hx rfl (hb hby own_h567) ?_
            refine XS.aloadN X1883.here hx rfl (hb hby own_h568) rfl rfl ?_
            refine XS.iconst X1883.here hx rfl (hb hby own_h569) ?_
            refine own_caload X1883 hx hZ e1884 (Arv.keep F1845 K1888 (ninS ne1872 nin0)) (j := (4 : Int32)) (v := (.int b4)) (by decide) rfl (g := (mkF m 428 #[.val (.ref b), .val (.int nv)] [(.int (4 : Int32)), (.ref b), (.int (2 : Int32)), (.ref a1839), (.ref a1839), (.ref a1817), (.ref a1817)])) rfl rfl (hb hby own_h570) _ ?_
            exact hh)
           clear k143
           obtain ⟨cl1890, Ar1891, q1892, S1893, Ng1894, H1895, Gf1896⟩ := id V1889
           have hin1897 := inb_of (j := (2 : Int32)) S1893 (by decide)
           obtain ⟨T1898, h1899, X1900, e1901, W1902, st1903⟩ := stC X1883 hx hZ e1884 Ar1891 (j := (2 : Int32)) hin1897 (g := (mkF m 429 #[.val (.ref b), .val (.int nv)] [(.int b4), (.int (2 : Int32)), (.ref a1839), (.ref a1839), (.ref a1817), (.ref a1817)])) rfl rfl (hb hby own_h571)
           have N1904 := Fr.snoc X1900 N1887 G1842
           have K1905 : Keep h1831 h1899 [a1839] := K1888.wr W1902 own_m0
           have V1906 := Arv.set Ar1891 q1892 S1893 Ng1894 H1895 Gf1896 (v := (.int (nar .char b4))) (fits_nar_char _) W1902 2 rfl (own_lt rfl)
           have k145 : own_J p e below T1898 m 430 #[.val (.ref b), .val (.int nv)] [(.ref a1839), (.ref a1817), (.ref a1817)] B_ := fun t_ hh => k144 t_ (st1903 t_ hh)
           clear k144 st1903 X1883 e1884 cl1890 Ar1891 q1892 S1893 Ng1894 H1895 Gf1896 hin1897 W1902 K1888 V1889 N1887
           have k146 : own_J p e below T1898 m 435 #[.val (.ref b), .val (.int nv)] [(.int b5), (.int (3 : Int32)), (.ref a1839), (.ref a1839), (.ref a1817), (.ref a1817)] B_ := fun t_ hh => k145 t_ (by
            refine XS.dup X1900.here hx rfl (hb hby own_h572) rfl rfl ?_
            refine XS.iconst X1900.here hx rfl (hb hby own_h573) ?_
            refine XS.aloadN X1900.here hx rfl (hb hby own_h574) rfl rfl ?_
            refine XS.iconst X1900.here hx rfl (hb hby own_h575) ?_
            refine own_caload X1900 hx hZ e1901 (Arv.keep F1845 K1905 (ninS ne1872 nin0)) (j := (5 : Int32)) (v := (.int b5)) (by decide) rfl (g := (mkF m 434 #[.val (.ref b), .val (.int nv)] [(.int (5 : Int32)), (.ref b), (.int (3 : Int32)), (.ref a1839), (.ref a1839), (.ref a1817), (.ref a1817)])) rfl rfl (hb hby own_h576) _ ?_
            exact hh)
           clear k145
           obtain ⟨cl1907, Ar1908, q1909, S1910, Ng1911, H1912, Gf1913⟩ := id V1906
           have hin1914 := inb_of (j := (3 : Int32)) S1910 (by decide)
           obtain ⟨T1915, h1916, X1917, e1918, W1919, st1920⟩ := stC X1900 hx hZ e1901 Ar1908 (j := (3 : Int32)) hin1914 (g := (mkF m 435 #[.val (.ref b), .val (.int nv)] [(.int b5), (.int (3 : Int32)), (.ref a1839), (.ref a1839), (.ref a1817), (.ref a1817)])) rfl rfl (hb hby own_h577)
           have N1921 := Fr.snoc X1917 N1904 G1842
           have K1922 : Keep h1831 h1916 [a1839] := K1905.wr W1919 own_m0
           have V1923 := Arv.set Ar1908 q1909 S1910 Ng1911 H1912 Gf1913 (v := (.int (nar .char b5))) (fits_nar_char _) W1919 3 rfl (own_lt rfl)
           have k147 : own_J p e below T1915 m 436 #[.val (.ref b), .val (.int nv)] [(.ref a1839), (.ref a1817), (.ref a1817)] B_ := fun t_ hh => k146 t_ (st1920 t_ hh)
           clear k146 st1920 X1900 e1901 cl1907 Ar1908 q1909 S1910 Ng1911 H1912 Gf1913 hin1914 W1919 K1905 V1906 N1904
           have k148 : own_J p e below T1915 m 442 #[.val (.ref b), .val (.int nv)] [(.int b6), (.int (4 : Int32)), (.ref a1839), (.ref a1839), (.ref a1817), (.ref a1817)] B_ := fun t_ hh => k147 t_ (by
            refine XS.dup X1917.here hx rfl (hb hby own_h578) rfl rfl ?_
            refine XS.iconst X1917.here hx rfl (hb hby own_h579) ?_
            refine XS.aloadN X1917.here hx rfl (hb hby own_h580) rfl rfl ?_
            refine XS.bipush X1917.here hx rfl (hb hby own_h581) ?_
            refine own_caload X1917 hx hZ e1918 (Arv.keep F1845 K1922 (ninS ne1872 nin0)) (j := (6 : Int32)) (v := (.int b6)) (by decide) rfl (g := (mkF m 441 #[.val (.ref b), .val (.int nv)] [(.int (6 : Int32)), (.ref b), (.int (4 : Int32)), (.ref a1839), (.ref a1839), (.ref a1817), (.ref a1817)])) rfl rfl (hb hby own_h582) _ ?_
            exact hh)
           clear k147
           obtain ⟨cl1924, Ar1925, q1926, S1927, Ng1928, H1929, Gf1930⟩ := id V1923
           have hin1931 := inb_of (j := (4 : Int32)) S1927 (by decide)
           obtain ⟨T1932, h1933, X1934, e1935, W1936, st1937⟩ := stC X1917 hx hZ e1918 Ar1925 (j := (4 : Int32)) hin1931 (g := (mkF m 442 #[.val (.ref b), .val (.int nv)] [(.int b6), (.int (4 : Int32)), (.ref a1839), (.ref a1839), (.ref a1817), (.ref a1817)])) rfl rfl (hb hby own_h583)
           have N1938 := Fr.snoc X1934 N1921 G1842
           have K1939 : Keep h1831 h1933 [a1839] := K1922.wr W1936 own_m0
           have V1940 := Arv.set Ar1925 q1926 S1927 Ng1928 H1929 Gf1930 (v := (.int (nar .char b6))) (fits_nar_char _) W1936 4 rfl (own_lt rfl)
           have k149 : own_J p e below T1932 m 443 #[.val (.ref b), .val (.int nv)] [(.ref a1839), (.ref a1817), (.ref a1817)] B_ := fun t_ hh => k148 t_ (st1937 t_ hh)
           clear k148 st1937 X1917 e1918 cl1924 Ar1925 q1926 S1927 Ng1928 H1929 Gf1930 hin1931 W1936 K1922 V1923 N1921
           have k150 : own_J p e below T1932 m 449 #[.val (.ref b), .val (.int nv)] [(.int b7), (.int (5 : Int32)), (.ref a1839), (.ref a1839), (.ref a1817), (.ref a1817)] B_ := fun t_ hh => k149 t_ (by
            refine XS.dup X1934.here hx rfl (hb hby own_h584) rfl rfl ?_
            refine XS.iconst X1934.here hx rfl (hb hby own_h585) ?_
            refine XS.aloadN X1934.here hx rfl (hb hby own_h586) rfl rfl ?_
            refine XS.bipush X1934.here hx rfl (hb hby own_h587) ?_
            refine own_caload X1934 hx hZ e1935 (Arv.keep F1845 K1939 (ninS ne1872 nin0)) (j := (7 : Int32)) (v := (.int b7)) (by decide) rfl (g := (mkF m 448 #[.val (.ref b), .val (.int nv)] [(.int (7 : Int32)), (.ref b), (.int (5 : Int32)), (.ref a1839), (.ref a1839), (.ref a1817), (.ref a1817)])) rfl rfl (hb hby own_h588) _ ?_
            exact hh)
           clear k149
           obtain ⟨cl1941, Ar1942, q1943, S1944, Ng1945, H1946, Gf1947⟩ := id V1940
           have hin1948 := inb_of (j := (5 : Int32)) S1944 (by decide)
           obtain ⟨T1949, h1950, X1951, e1952, W1953, st1954⟩ := stC X1934 hx hZ e1935 Ar1942 (j := (5 : Int32)) hin1948 (g := (mkF m 449 #[.val (.ref b), .val (.int nv)] [(.int b7), (.int (5 : Int32)), (.ref a1839), (.ref a1839), (.ref a1817), (.ref a1817)])) rfl rfl (hb hby own_h589)
           have N1955 := Fr.snoc X1951 N1938 G1842
           have K1956 : Keep h1831 h1950 [a1839] := K1939.wr W1953 own_m0
           have V1957 := Arv.set Ar1942 q1943 S1944 Ng1945 H1946 Gf1947 (v := (.int (nar .char b7))) (fits_nar_char _) W1953 5 rfl (own_lt rfl)
           have k151 : own_J p e below T1949 m 450 #[.val (.ref b), .val (.int nv)] [(.ref a1839), (.ref a1817), (.ref a1817)] B_ := fun t_ hh => k150 t_ (st1954 t_ hh)
           clear k150 st1954 X1934 e1935 cl1941 Ar1942 q1943 S1944 Ng1945 H1946 Gf1947 hin1948 W1953 K1939 V1940 N1938
           have k152 : own_J p e below T1949 m 457 #[.val (.ref b), .val (.int nv)] [(.int b8), (.int (6 : Int32)), (.ref a1839), (.ref a1839), (.ref a1817), (.ref a1817)] B_ := fun t_ hh => k151 t_ (by
            refine XS.dup X1951.here hx rfl (hb hby own_h590) rfl rfl ?_
            refine XS.bipush X1951.here hx rfl (hb hby own_h591) ?_
            refine XS.aloadN X1951.here hx rfl (hb hby own_h592) rfl rfl ?_
            refine XS.bipush X1951.here hx rfl (hb hby own_h593) ?_
            refine own_caload X1951 hx hZ e1952 (Arv.keep F1845 K1956 (ninS ne1872 nin0)) (j := (8 : Int32)) (v := (.int b8)) (by decide) rfl (g := (mkF m 456 #[.val (.ref b), .val (.int nv)] [(.int (8 : Int32)), (.ref b), (.int (6 : Int32)), (.ref a1839), (.ref a1839), (.ref a1817), (.ref a1817)])) rfl rfl (hb hby own_h594) _ ?_
            exact hh)
           clear k151
           obtain ⟨cl1958, Ar1959, q1960, S1961, Ng1962, H1963, Gf1964⟩ := id V1957
           have hin1965 := inb_of (j := (6 : Int32)) S1961 (by decide)
           obtain ⟨T1966, h1967, X1968, e1969, W1970, st1971⟩ := stC X1951 hx hZ e1952 Ar1959 (j := (6 : Int32)) hin1965 (g := (mkF m 457 #[.val (.ref b), .val (.int nv)] [(.int b8), (.int (6 : Int32)), (.ref a1839), (.ref a1839), (.ref a1817), (.ref a1817)])) rfl rfl (hb hby own_h595)
           have N1972 := Fr.snoc X1968 N1955 G1842
           have K1973 : Keep h1831 h1967 [a1839] := K1956.wr W1970 own_m0
           have V1974 := Arv.set Ar1959 q1960 S1961 Ng1962 H1963 Gf1964 (v := (.int (nar .char b8))) (fits_nar_char _) W1970 6 rfl (own_lt rfl)
           have k153 : own_J p e below T1966 m 458 #[.val (.ref b), .val (.int nv)] [(.ref a1839), (.ref a1817), (.ref a1817)] B_ := fun t_ hh => k152 t_ (st1971 t_ hh)
           clear k152 st1971 X1951 e1952 cl1958 Ar1959 q1960 S1961 Ng1962 H1963 Gf1964 hin1965 W1970 K1956 V1957 N1955
           have k154 : own_J p e below T1966 m 465 #[.val (.ref b), .val (.int nv)] [(.int b9), (.int (7 : Int32)), (.ref a1839), (.ref a1839), (.ref a1817), (.ref a1817)] B_ := fun t_ hh => k153 t_ (by
            refine XS.dup X1968.here hx rfl (hb hby own_h596) rfl rfl ?_
            refine XS.bipush X1968.here hx rfl (hb hby own_h597) ?_
            refine XS.aloadN X1968.here hx rfl (hb hby own_h598) rfl rfl ?_
            refine XS.bipush X1968.here hx rfl (hb hby own_h599) ?_
            refine own_caload X1968 hx hZ e1969 (Arv.keep F1845 K1973 (ninS ne1872 nin0)) (j := (9 : Int32)) (v := (.int b9)) (by decide) rfl (g := (mkF m 464 #[.val (.ref b), .val (.int nv)] [(.int (9 : Int32)), (.ref b), (.int (7 : Int32)), (.ref a1839), (.ref a1839), (.ref a1817), (.ref a1817)])) rfl rfl (hb hby own_h600) _ ?_
            exact hh)
           clear k153
           obtain ⟨cl1975, Ar1976, q1977, S1978, Ng1979, H1980, Gf1981⟩ := id V1974
           have hin1982 := inb_of (j := (7 : Int32)) S1978 (by decide)
           obtain ⟨T1983, h1984, X1985, e1986, W1987, st1988⟩ := stC X1968 hx hZ e1969 Ar1976 (j := (7 : Int32)) hin1982 (g := (mkF m 465 #[.val (.ref b), .val (.int nv)] [(.int b9), (.int (7 : Int32)), (.ref a1839), (.ref a1839), (.ref a1817), (.ref a1817)])) rfl rfl (hb hby own_h601)
           have N1989 := Fr.snoc X1985 N1972 G1842
           have K1990 : Keep h1831 h1984 [a1839] := K1973.wr W1987 own_m0
           have V1991 := Arv.set Ar1976 q1977 S1978 Ng1979 H1980 Gf1981 (v := (.int (nar .char b9))) (fits_nar_char _) W1987 7 rfl (own_lt rfl)
           have k155 : own_J p e below T1983 m 466 #[.val (.ref b), .val (.int nv)] [(.ref a1839), (.ref a1817), (.ref a1817)] B_ := fun t_ hh => k154 t_ (st1988 t_ hh)
           clear k154 st1988 X1968 e1969 cl1975 Ar1976 q1977 S1978 Ng1979 H1980 Gf1981 hin1982 W1987 K1973 V1974 N1972
           have k156 : own_J p e below T1983 m 473 #[.val (.ref b), .val (.int nv)] [(.int b10), (.int (8 : Int32)), (.ref a1839), (.ref a1839), (.ref a1817), (.ref a1817)] B_ := fun t_ hh => k155 t_ (by
            refine XS.dup X1985.here hx rfl (hb hby own_h602) rfl rfl ?_
            refine XS.bipush X1985.here hx rfl (hb hby own_h603) ?_
            refine XS.aloadN X1985.here hx rfl (hb hby own_h604) rfl rfl ?_
            refine XS.bipush X1985.here hx rfl (hb hby own_h605) ?_
            refine own_caload X1985 hx hZ e1986 (Arv.keep F1845 K1990 (ninS ne1872 nin0)) (j := (10 : Int32)) (v := (.int b10)) (by decide) rfl (g := (mkF m 472 #[.val (.ref b), .val (.int nv)] [(.int (10 : Int32)), (.ref b), (.int (8 : Int32)), (.ref a1839), (.ref a1839), (.ref a1817), (.ref a1817)])) rfl rfl (hb hby own_h606) _ ?_
            exact hh)
           clear k155
           obtain ⟨cl1992, Ar1993, q1994, S1995, Ng1996, H1997, Gf1998⟩ := id V1991
           have hin1999 := inb_of (j := (8 : Int32)) S1995 (by decide)
           obtain ⟨T2000, h2001, X2002, e2003, W2004, st2005⟩ := stC X1985 hx hZ e1986 Ar1993 (j := (8 : Int32)) hin1999 (g := (mkF m 473 #[.val (.ref b), .val (.int nv)] [(.int b10), (.int (8 : Int32)), (.ref a1839), (.ref a1839), (.ref a1817), (.ref a1817)])) rfl rfl (hb hby own_h607)
           have N2006 := Fr.snoc X2002 N1989 G1842
           have K2007 : Keep h1831 h2001 [a1839] := K1990.wr W2004 own_m0
           have V2008 := Arv.set Ar1993 q1994 S1995 Ng1996 H1997 Gf1998 (v := (.int (nar .char b10))) (fits_nar_char _) W2004 8 rfl (own_lt rfl)
           have k157 : own_J p e below T2000 m 474 #[.val (.ref b), .val (.int nv)] [(.ref a1839), (.ref a1817), (.ref a1817)] B_ := fun t_ hh => k156 t_ (st2005 t_ hh)
           clear k156 st2005 X1985 e1986 cl1992 Ar1993 q1994 S1995 Ng1996 H1997 Gf1998 hin1999 W2004 K1990 V1991 N1989
           have V2009 : Arv Z h2001 a1839 kA1832 .char (9 : Int32) [(.int (nar .char b2)), (.int (nar .char b3)), (.int (nar .char b4)), (.int (nar .char b5)), (.int (nar .char b6)), (.int (nar .char b7)), (.int (nar .char b8)), (.int (nar .char b9)), (.int (nar .char b10))] (.int (0 : Int32)) := V2008
           have F2010 := F1845.keep K2007 (ninS ne1872 nin0)
           have F2011 := F1846.keep K2007
           have ne2013 : a1817 ≠ a1839 := by rw [g1840]; exact Nat.ne_of_lt A1813.lt
           have F2012 := F1847.keep K2007 (ninS ne2013 nin0)
           have F2014 := F1848.keep K2007 (ninS ne2013 nin0)
           have Z2015 : n0 ≤ h2001.size := Nat.le_trans Z1849 K2007.1
           have hk2016 := Nat.le_trans hk1843 K2007.1
           have Sf2017 := Safe.keep K2007 (allS Sf1844 all0) Cr1853.1 Sf1852
           have Sf2018 := Safe.keep K2007 (allS Sf1844 all0) Cr1853.1 Sf1844
           have Cr2019 := Cr1853.trans (CHr.keep K2007 (allS Sf1844 all0) Cr1853.1)
           have O2020 := O1850.keep K2007 (allS G1842 all0)
           have P2021 : Keep h0 h2001 [] := P1851.trans K2007 (allS (P := fun x => x ∈ [] ∨ h0.size ≤ x) (Or.inr H01841) all0)
           have F2022 : Arv Z h2001 a1839 kA1832 .char (Int32.ofNat 9) (([b2, b3, b4, b5, b6, b7, b8, b9, b10] : List Int32).map Value.int) (.int 0) := by have q := V2009; simp only [e2_, e3_, e4_, e5_, e6_, e7_, e8_, e9_, e10_] at q; exact q
           have hcs2023 : own_chs ([b2, b3, b4, b5, b6, b7, b8, b9, b10] : List Int32) := own_chs_drop (cs := [b0, b1, b2, b3, b4, b5, b6, b7, b8, b9, b10]) 2 hbc
           by_cases hA : ∀ c ∈ ([b2, b3, b4, b5, b6, b7, b8, b9, b10] : List Int32), ¬ (255 : Int32) < c
           ·
            obtain ⟨_, _, ⟨T2024, L2025, k_2026, n_2027⟩, -, X2028, ⟨Lc2029, hQ2030, l_2031, y_2032, z_2033⟩, st2034⟩ := X2002.specialBack hx (y := (⟨"java/lang/String", "<init>", "([C)V"⟩ : MethodName)) rfl hown (mvT hZ (wT hw 26 rfl)) (mvT hZ (wT hw 27 rfl)) (mvT hZ (wT hw 28 rfl)) (by decide) (StrChars.Road.backV (W := 1) hZ (fun d hd => hw d (own_sub_words d hd)) (kI := 4) (wT hw 24 rfl) (cs := ([b2, b3, b4, b5, b6, b7, b8, b9, b10] : List Int32)) (n0 := n0) G1820 Z2015 F2011 F2014 F2012 F2022 (Sta.ext O2020.2 sC) hc rfl rfl (own_lt rfl) (own_l rfl) (own_b8s hcs2023 hA) rfl (by decide) (by decide)) (g := (mkF m 474 #[.val (.ref b), .val (.int nv)] [(.ref a1839), (.ref a1817), (.ref a1817)])) rfl (by rw [hml]; rfl) (Steps.refl _) (a := a1817) (argsL := [(.ref a1839)]) (rest := [(.ref a1817)]) (lenOf own_h257 rfl) rfl (by show 2 * 0 + _ ≤ _; exact Nat.le_of_eq rfl) (hb hby own_h608) (fun _ _ => ⟨rfl, e2003, own_l rfl, own_l rfl⟩)
            dsimp only [Pt.U, Pt.locs, Pt.cells, Pt.slots] at X2028 l_2031 y_2032 z_2033 st2034 hQ2030
            replace l_2031 := l_2031.symm
            subst l_2031 y_2032 z_2033
            obtain ⟨rfl, N2035, K2036, E2037, F2038, t2039, kb2040, G2041, G2042, G2043, F2044, F2045⟩ := hQ2030
            have N2046 := Fr.app N2006 N2035
            have ne2048 : b ≠ a1817 := by rw [g1818]; exact Nat.ne_of_lt Fb.lt
            have F2047 := F2010.keep K2036 (ninS ne2048 nin0)
            have F2049 := F2011.keep K2036
            have F2050 := F2022.keep K2036 (ninS (Ne.symm ne2013) nin0)
            have Z2051 : n0 ≤ T2024.heap.size := Nat.le_trans Z2015 K2036.1
            have hk2052 := Nat.le_trans hk2016 K2036.1
            have Sf2053 := Safe.keep K2036 (allS Sf2017 all0) Cr2019.1 Sf2017
            have Sf2054 := Safe.keep K2036 (allS Sf2017 all0) Cr2019.1 Sf2018
            have Cr2055 := Cr2019.trans (CHr.keep K2036 (allS Sf2017 all0) Cr2019.1)
            have O2056 := O2020.keep K2036 (allS G1820 all0)
            have P2057 : Keep h0 T2024.heap [] := P2021.trans K2036 (allS (P := fun x => x ∈ [] ∨ h0.size ≤ x) (Or.inr H01819) all0)
            have S2058 : own_Str Z T2024.heap a1817 t2039 kb2040 ([b2, b3, b4, b5, b6, b7, b8, b9, b10] : List Int32) := ⟨E2037, F2044, F2038, F2045⟩
            have e2059 : T2024.heap = T2024.heap := rfl
            have k158 : own_J p e below T2024 m 477 #[.val (.ref b), .val (.int nv)] [(.ref a1817)] B_ := fun t_ hh => k157 t_ (st2034.trans hh)
            clear k157 st2034 X2002 e2003
            obtain ⟨fs, hr, hrun, hended, hEnd⟩ := X2028.leaveW hS0 (by rw [e2059]; exact hk2052) (v := some (.ref a1817)) (fun h => by rw [Bd.returns] at h; cases h)
            refine ⟨_, _, (own_from hB_ (k158 _ (retOut X2028 hx (t := .object "java/lang/String") Bd.returns rfl (Or.inr (Or.inr (Or.inr (Or.inr ⟨rfl, rfl, rfl⟩)))) (hb hby own_h609) hr))), hrun, hended, _, _, rfl, ?_, ?_, hEnd.1, hEnd.2.1, hEnd.2.2.1, hEnd.2.2.2.mono (own_l rfl) (own_l rfl)⟩
            rotate_left
            · show CHr Z own_EL s.vm s.heap T2024.vm T2024.heap
              rw [hh, e2059]
              exact Cr2055.trans (CHv.at X2028 hZ (own_EW hw) Cr2055.1)
            show Q_mk Z nv b0 b1 b2 b3 b4 b5 b6 b7 b8 b9 b10 h0 n0 _ T2024.heap _
            rw [e2059]
            exact ⟨a1817, rfl, N2046, P2057, G1820, E2037, by rw [c401]; exact (Or.inl ⟨t2039, kb2040, S2058, own_b8s hcs2023 hA⟩)⟩
           ·
            obtain ⟨k, hk, hkb, hlo⟩ := own_first _ hA
            obtain ⟨_, _, ⟨T2060, L2061, k_2062, n_2063⟩, -, X2064, ⟨Lc2065, hQ2066, l_2067, y_2068, z_2069⟩, st2070⟩ := X2002.specialBack hx (y := (⟨"java/lang/String", "<init>", "([C)V"⟩ : MethodName)) rfl hown (mvT hZ (wT hw 26 rfl)) (mvT hZ (wT hw 27 rfl)) (mvT hZ (wT hw 28 rfl)) (by decide) (backOf (W := 1) (rmI2 l Z a0 hw [] a1817 a1839 kA1832 ([b2, b3, b4, b5, b6, b7, b8, b9, b10] : List Int32) k h2001 n0 Z2015 F2011 F2014 F2012 G1820 F2022 (own_l rfl) hcs2023 hk hkb hlo O2020 (Ne.symm ne2013) sA sH sL ci sC hc) hZ (wT hw 28 rfl) (wT hw 25 rfl) (by decide) (by decide)) (g := (mkF m 474 #[.val (.ref b), .val (.int nv)] [(.ref a1839), (.ref a1817), (.ref a1817)])) rfl (by rw [hml]; rfl) (Steps.refl _) (a := a1817) (argsL := [(.ref a1839)]) (rest := [(.ref a1817)]) (lenOf own_h257 rfl) rfl (by show 2 * 0 + _ ≤ _; exact Nat.le_of_eq rfl) (hb hby own_h608) (fun _ _ => ⟨rfl, e2003, own_l rfl, own_l rfl⟩)
            dsimp only [Pt.U, Pt.locs, Pt.cells, Pt.slots] at X2064 l_2067 y_2068 z_2069 st2070 hQ2066
            replace l_2067 := l_2067.symm
            subst l_2067 y_2068 z_2069
            obtain ⟨t2072, kt2073, ds2074, rfl, N2071, K2082, F2075, F2076, F2077, F2078, F2079, F2080, F2081, -⟩ := hQ2066
            have N2083 := Fr.app N2006 N2071
            have H02084 : h0.size ≤ t2072 := Nat.le_trans P2021.1 F2081
            have ne2086 : b ≠ a1817 := by rw [g1818]; exact Nat.ne_of_lt Fb.lt
            have F2085 := F2010.keep K2082 (ninS ne2086 nin0)
            have F2087 := F2011.keep K2082
            have F2088 := F2022.keep K2082 (ninS (Ne.symm ne2013) nin0)
            have Z2089 : n0 ≤ T2060.heap.size := Nat.le_trans Z2015 K2082.1
            have hk2090 := Nat.le_trans hk2016 K2082.1
            have Sf2091 := Safe.keep K2082 (allS Sf2017 all0) Cr2019.1 Sf2017
            have Sf2092 := Safe.keep K2082 (allS Sf2017 all0) Cr2019.1 Sf2018
            have Cr2093 := Cr2019.trans (CHr.keep K2082 (allS Sf2017 all0) Cr2019.1)
            have O2094 := O2020.keep K2082 (allS G1820 all0)
            have P2095 : Keep h0 T2060.heap [] := P2021.trans K2082 (allS (P := fun x => x ∈ [] ∨ h0.size ≤ x) (Or.inr H01819) all0)
            have e2096 : T2060.heap = T2060.heap := rfl
            have k159 : own_J p e below T2060 m 477 #[.val (.ref b), .val (.int nv)] [(.ref a1817)] B_ := fun t_ hh => k157 t_ (st2070.trans hh)
            clear k157 st2070 X2002 e2003
            obtain ⟨fs, hr, hrun, hended, hEnd⟩ := X2064.leaveW hS0 (by rw [e2096]; exact hk2090) (v := some (.ref a1817)) (fun h => by rw [Bd.returns] at h; cases h)
            refine ⟨_, _, (own_from hB_ (k159 _ (retOut X2064 hx (t := .object "java/lang/String") Bd.returns rfl (Or.inr (Or.inr (Or.inr (Or.inr ⟨rfl, rfl, rfl⟩)))) (hb hby own_h609) hr))), hrun, hended, _, _, rfl, ?_, ?_, hEnd.1, hEnd.2.1, hEnd.2.2.1, hEnd.2.2.2.mono (own_l rfl) (own_l rfl)⟩
            rotate_left
            · show CHr Z own_EL s.vm s.heap T2060.vm T2060.heap
              rw [hh, e2096]
              exact Cr2093.trans (CHv.at X2064 hZ (own_EW hw) Cr2093.1)
            show Q_mk Z nv b0 b1 b2 b3 b4 b5 b6 b7 b8 b9 b10 h0 n0 _ T2060.heap _
            rw [e2096]
            exact ⟨a1817, rfl, N2083, P2095, G1820, F2075, by rw [c401]; exact (Or.inr ⟨t2072, kt2073, ds2074, F2075, F2076, F2077, F2078, F2079⟩)⟩
          ·
           have k160 : own_J p e below s₁ m 481 #[.val (.ref b), .val (.int nv)] [(.int (10 : Int32)), (.int nv)] B_ := fun t_ hh => k135 t_ (by
            refine XS.icmpYes X0.here hx rfl (pc0 := 401) (pc' := 478) rfl (hb hby own_h549) rfl (own_icT_ne c401) (by decide) (by decide) ?_
            refine XS.iloadN X0.here hx rfl (hb hby own_h610) rfl ?_
            refine XS.bipush X0.here hx rfl (hb hby own_h611) ?_
            exact hh)
           clear k135
           by_cases c481 : nv = (10 : Int32)
           ·
            have k161 : own_J p e below s₁ m 484 #[.val (.ref b), .val (.int nv)] [] B_ := fun t_ hh => k160 t_ (by
             refine XS.icmpNo X0.here hx rfl (hb hby own_h612) rfl (own_icF_ne c481) ?_
             exact hh)
            clear k160
            obtain ⟨T2097, h2098, X2099, e2100, E2101, A2102, D2103, U2105, st2104⟩ := newO X0 hx hZ hown (wT hw 23 rfl) (wT hw 24 rfl) (wT hw 25 rfl) e0 (g := (mkF m 484 #[.val (.ref b), .val (.int nv)] [])) rfl (hb hby own_h613) (by decide) (by decide)
            obtain ⟨a2106, g2107⟩ : ∃ z, z = h0.size := ⟨_, rfl⟩
            rw [← g2107] at A2102 D2103 U2105 st2104
            have H02108 : h0.size ≤ a2106 := Nat.le_trans K0.1 (Nat.le_of_eq g2107.symm)
            have G2109 : n0 ≤ a2106 := Nat.le_trans Z0 (Nat.le_of_eq g2107.symm)
            have hk2110 := Nat.le_trans hk0 E2101.1
            have Sf2111 := Safe.ext E2101 Cr0.1 (Safe.new (x := a2106) (Nat.le_of_eq g2107.symm))
            have F2112 := Fb.ext E2101
            have Z2113 : n0 ≤ h2098.size := Nat.le_trans Z0 E2101.1
            have O2114 := O0.ext E2101
            have P2115 : Keep h0 h2098 [] := K0.ext E2101
            have Cr2116 := Cr0.trans (CHr.ext E2101 Cr0.1)
            have F2117 : Fld Z h2098 a2106 "java/lang/String" "coder" "B" (.int (0 : Int32)) := D2103 (Or.inr (wT hw 49 rfl)) (ty := .byte) (by decide)
            have F2118 : Fld Z h2098 a2106 "java/lang/String" "value" "[B" .null := D2103 (Or.inr (wT hw 51 rfl)) (ty := .array .byte) (by decide)
            have k162 : own_J p e below T2097 m 487 #[.val (.ref b), .val (.int nv)] [(.ref a2106)] B_ := fun t_ hh => k161 t_ (st2104 t_ hh)
            clear k161 st2104
            have k163 : own_J p e below T2097 m 490 #[.val (.ref b), .val (.int nv)] [(.int (10 : Int32)), (.ref a2106), (.ref a2106)] B_ := fun t_ hh => k162 t_ (by
             refine XS.dup X2099.here hx rfl (hb hby own_h614) rfl rfl ?_
             refine XS.bipush X2099.here hx rfl (hb hby own_h615) ?_
             exact hh)
            clear k162
            obtain ⟨T2119, h2120, kA2121, X2122, e2123, E2124, A2125, st2127⟩ := newP X2099 hx hZ (wT hw 15 rfl) e2100 (g := (mkF m 490 #[.val (.ref b), .val (.int nv)] [(.int (10 : Int32)), (.ref a2106), (.ref a2106)])) rfl (hb hby own_h616) rfl (by decide) (cap := 10) (by decide) (by decide) (by decide) (by decide)
            obtain ⟨a2128, g2129⟩ : ∃ z, z = h2098.size := ⟨_, rfl⟩
            rw [← g2129] at A2125 st2127
            have H02130 : h0.size ≤ a2128 := Nat.le_trans P2115.1 (Nat.le_of_eq g2129.symm)
            have G2131 : n0 ≤ a2128 := Nat.le_trans Z2113 (Nat.le_of_eq g2129.symm)
            have hk2132 := Nat.le_trans hk2110 E2124.1
            have Sf2133 := Safe.ext E2124 Cr2116.1 (Safe.new (x := a2128) (Nat.le_of_eq g2129.symm))
            have F2134 := F2112.ext E2124
            have F2135 := Exa.ext (h' := h2120) E2124 A2102
            have F2136 := Fld.ext (h' := h2120) E2124 F2117
            have F2137 := Fld.ext (h' := h2120) E2124 F2118
            have Z2138 : n0 ≤ h2120.size := Nat.le_trans Z2113 E2124.1
            have O2139 := O2114.ext E2124
            have P2140 : Keep h0 h2120 [] := P2115.ext E2124
            have Sf2141 := Safe.ext E2124 Cr2116.1 Sf2111
            have Cr2142 := Cr2116.trans (CHr.ext E2124 Cr2116.1)
            have V2143 : Arv Z h2120 a2128 kA2121 .char (10 : Int32) [(.int (0 : Int32)), (.int (0 : Int32)), (.int (0 : Int32)), (.int (0 : Int32)), (.int (0 : Int32)), (.int (0 : Int32)), (.int (0 : Int32)), (.int (0 : Int32)), (.int (0 : Int32)), (.int (0 : Int32))] (.int (0 : Int32)) := Arv.pad (Arv.new A2125 (by decide)) (pad_rep [] (.int (0 : Int32)) 10)
            have k164 : own_J p e below T2119 m 492 #[.val (.ref b), .val (.int nv)] [(.ref a2128), (.ref a2106), (.ref a2106)] B_ := fun t_ hh => k163 t_ (st2127 t_ hh)
            clear k163 st2127 X2099 e2100
            have k165 : own_J p e below T2119 m 497 #[.val (.ref b), .val (.int nv)] [(.int b1), (.int (0 : Int32)), (.ref a2128), (.ref a2128), (.ref a2106), (.ref a2106)] B_ := fun t_ hh => k164 t_ (by
             refine XS.dup X2122.here hx rfl (hb hby own_h617) rfl rfl ?_
             refine XS.iconst X2122.here hx rfl (hb hby own_h618) ?_
             refine XS.aloadN X2122.here hx rfl (hb hby own_h619) rfl rfl ?_
             refine XS.iconst X2122.here hx rfl (hb hby own_h620) ?_
             refine own_caload X2122 hx hZ e2123 F2134 (j := (1 : Int32)) (v := (.int b1)) (by decide) rfl (g := (mkF m 496 #[.val (.ref b), .val (.int nv)] [(.int (1 : Int32)), (.ref b), (.int (0 : Int32)), (.ref a2128), (.ref a2128), (.ref a2106), (.ref a2106)])) rfl rfl (hb hby own_h621) _ ?_
             exact hh)
            clear k164
            obtain ⟨cl2144, Ar2145, q2146, S2147, Ng2148, H2149, Gf2150⟩ := id V2143
            have hin2151 := inb_of (j := (0 : Int32)) S2147 (by decide)
            obtain ⟨T2152, h2153, X2154, e2155, W2156, st2157⟩ := stC X2122 hx hZ e2123 Ar2145 (j := (0 : Int32)) hin2151 (g := (mkF m 497 #[.val (.ref b), .val (.int nv)] [(.int b1), (.int (0 : Int32)), (.ref a2128), (.ref a2128), (.ref a2106), (.ref a2106)])) rfl rfl (hb hby own_h622)
            have N2158 := Fr.snoc X2154 N0 G2131
            have K2159 : Keep h2120 h2153 [a2128] := Keep.of_wr W2156
            have V2160 := Arv.set Ar2145 q2146 S2147 Ng2148 H2149 Gf2150 (v := (.int (nar .char b1))) (fits_nar_char _) W2156 0 rfl (own_lt rfl)
            have k166 : own_J p e below T2152 m 498 #[.val (.ref b), .val (.int nv)] [(.ref a2128), (.ref a2106), (.ref a2106)] B_ := fun t_ hh => k165 t_ (st2157 t_ hh)
            clear k165 st2157 X2122 e2123 cl2144 Ar2145 q2146 S2147 Ng2148 H2149 Gf2150 hin2151 W2156 V2143
            have ne2161 : b ≠ a2128 := by rw [g2129]; exact Nat.ne_of_lt F2112.lt
            have k167 : own_J p e below T2152 m 503 #[.val (.ref b), .val (.int nv)] [(.int b2), (.int (1 : Int32)), (.ref a2128), (.ref a2128), (.ref a2106), (.ref a2106)] B_ := fun t_ hh => k166 t_ (by
             refine XS.dup X2154.here hx rfl (hb hby own_h623) rfl rfl ?_
             refine XS.iconst X2154.here hx rfl (hb hby own_h624) ?_
             refine XS.aloadN X2154.here hx rfl (hb hby own_h625) rfl rfl ?_
             refine XS.iconst X2154.here hx rfl (hb hby own_h626) ?_
             refine own_caload X2154 hx hZ e2155 (Arv.keep F2134 K2159 (ninS ne2161 nin0)) (j := (2 : Int32)) (v := (.int b2)) (by decide) rfl (g := (mkF m 502 #[.val (.ref b), .val (.int nv)] [(.int (2 : Int32)), (.ref b), (.int (1 : Int32)), (.ref a2128), (.ref a2128), (.ref a2106), (.ref a2106)])) rfl rfl (hb hby own_h627) _ ?_
             exact hh)
            clear k166
            obtain ⟨cl2162, Ar2163, q2164, S2165, Ng2166, H2167, Gf2168⟩ := id V2160
            have hin2169 := inb_of (j := (1 : Int32)) S2165 (by decide)
            obtain ⟨T2170, h2171, X2172, e2173, W2174, st2175⟩ := stC X2154 hx hZ e2155 Ar2163 (j := (1 : Int32)) hin2169 (g := (mkF m 503 #[.val (.ref b), .val (.int nv)] [(.int b2), (.int (1 : Int32)), (.ref a2128), (.ref a2128), (.ref a2106), (.ref a2106)])) rfl rfl (hb hby own_h628)
            have N2176 := Fr.snoc X2172 N2158 G2131
            have K2177 : Keep h2120 h2171 [a2128] := K2159.wr W2174 own_m0
            have V2178 := Arv.set Ar2163 q2164 S2165 Ng2166 H2167 Gf2168 (v := (.int (nar .char b2))) (fits_nar_char _) W2174 1 rfl (own_lt rfl)
            have k168 : own_J p e below T2170 m 504 #[.val (.ref b), .val (.int nv)] [(.ref a2128), (.ref a2106), (.ref a2106)] B_ := fun t_ hh => k167 t_ (st2175 t_ hh)
            clear k167 st2175 X2154 e2155 cl2162 Ar2163 q2164 S2165 Ng2166 H2167 Gf2168 hin2169 W2174 K2159 V2160 N2158
            have k169 : own_J p e below T2170 m 509 #[.val (.ref b), .val (.int nv)] [(.int b3), (.int (2 : Int32)), (.ref a2128), (.ref a2128), (.ref a2106), (.ref a2106)] B_ := fun t_ hh => k168 t_ (by
             refine XS.dup X2172.here hx rfl (hb hby own_h629) rfl rfl ?_
             refine XS.iconst X2172.here hx rfl (hb hby own_h630) ?_
             refine XS.aloadN X2172.here hx rfl (hb hby own_h631) rfl rfl ?_
             refine XS.iconst X2172.here hx rfl (hb hby own_h632) ?_
             refine own_caload X2172 hx hZ e2173 (Arv.keep F2134 K2177 (ninS ne2161 nin0)) (j := (3 : Int32)) (v := (.int b3)) (by decide) rfl (g := (mkF m 508 #[.val (.ref b), .val (.int nv)] [(.int (3 : Int32)), (.ref b), (.int (2 : Int32)), (.ref a2128), (.ref a2128), (.ref a2106), (.ref a2106)])) rfl rfl (hb hby own_h633) _ ?_
             exact hh)
            clear k168
            obtain ⟨cl2179, Ar2180, q2181, S2182, Ng2183, H2184, Gf2185⟩ := id V2178
            have hin2186 := inb_of (j := (2 : Int32)) S2182 (by decide)
            obtain ⟨T2187, h2188, X2189, e2190, W2191, st2192⟩ := stC X2172 hx hZ e2173 Ar2180 (j := (2 : Int32)) hin2186 (g := (mkF m 509 #[.val (.ref b), .val (.int nv)] [(.int b3), (.int (2 : Int32)), (.ref a2128), (.ref a2128), (.ref a2106), (.ref a2106)])) rfl rfl (hb hby own_h634)
            have N2193 := Fr.snoc X2189 N2176 G2131
            have K2194 : Keep h2120 h2188 [a2128] := K2177.wr W2191 own_m0
            have V2195 := Arv.set Ar2180 q2181 S2182 Ng2183 H2184 Gf2185 (v := (.int (nar .char b3))) (fits_nar_char _) W2191 2 rfl (own_lt rfl)
            have k170 : own_J p e below T2187 m 510 #[.val (.ref b), .val (.int nv)] [(.ref a2128), (.ref a2106), (.ref a2106)] B_ := fun t_ hh => k169 t_ (st2192 t_ hh)
            clear k169 st2192 X2172 e2173 cl2179 Ar2180 q2181 S2182 Ng2183 H2184 Gf2185 hin2186 W2191 K2177 V2178 N2176
            have k171 : own_J p e below T2187 m 515 #[.val (.ref b), .val (.int nv)] [(.int b4), (.int (3 : Int32)), (.ref a2128), (.ref a2128), (.ref a2106), (.ref a2106)] B_ := fun t_ hh => k170 t_ (by
             refine XS.dup X2189.here hx rfl (hb hby own_h635) rfl rfl ?_
             refine XS.iconst X2189.here hx rfl (hb hby own_h636) ?_
             refine XS.aloadN X2189.here hx rfl (hb hby own_h637) rfl rfl ?_
             refine XS.iconst X2189.here hx rfl (hb hby own_h638) ?_
             refine own_caload X2189 hx hZ e2190 (Arv.keep F2134 K2194 (ninS ne2161 nin0)) (j := (4 : Int32)) (v := (.int b4)) (by decide) rfl (g := (mkF m 514 #[.val (.ref b), .val (.int nv)] [(.int (4 : Int32)), (.ref b), (.int (3 : Int32)), (.ref a2128), (.ref a2128), (.ref a2106), (.ref a2106)])) rfl rfl (hb hby own_h639) _ ?_
             exact hh)
            clear k170
            obtain ⟨cl2196, Ar2197, q2198, S2199, Ng2200, H2201, Gf2202⟩ := id V2195
            have hin2203 := inb_of (j := (3 : Int32)) S2199 (by decide)
            obtain ⟨T2204, h2205, X2206, e2207, W2208, st2209⟩ := stC X2189 hx hZ e2190 Ar2197 (j := (3 : Int32)) hin2203 (g := (mkF m 515 #[.val (.ref b), .val (.int nv)] [(.int b4), (.int (3 : Int32)), (.ref a2128), (.ref a2128), (.ref a2106), (.ref a2106)])) rfl rfl (hb hby own_h640)
            have N2210 := Fr.snoc X2206 N2193 G2131
            have K2211 : Keep h2120 h2205 [a2128] := K2194.wr W2208 own_m0
            have V2212 := Arv.set Ar2197 q2198 S2199 Ng2200 H2201 Gf2202 (v := (.int (nar .char b4))) (fits_nar_char _) W2208 3 rfl (own_lt rfl)
            have k172 : own_J p e below T2204 m 516 #[.val (.ref b), .val (.int nv)] [(.ref a2128), (.ref a2106), (.ref a2106)] B_ := fun t_ hh => k171 t_ (st2209 t_ hh)
            clear k171 st2209 X2189 e2190 cl2196 Ar2197 q2198 S2199 Ng2200 H2201 Gf2202 hin2203 W2208 K2194 V2195 N2193
            have k173 : own_J p e below T2204 m 521 #[.val (.ref b), .val (.int nv)] [(.int b5), (.int (4 : Int32)), (.ref a2128), (.ref a2128), (.ref a2106), (.ref a2106)] B_ := fun t_ hh => k172 t_ (by
             refine XS.dup X2206.here hx rfl (hb hby own_h641) rfl rfl ?_
             refine XS.iconst X2206.here hx rfl (hb hby own_h642) ?_
             refine XS.aloadN X2206.here hx rfl (hb hby own_h643) rfl rfl ?_
             refine XS.iconst X2206.here hx rfl (hb hby own_h644) ?_
             refine own_caload X2206 hx hZ e2207 (Arv.keep F2134 K2211 (ninS ne2161 nin0)) (j := (5 : Int32)) (v := (.int b5)) (by decide) rfl (g := (mkF m 520 #[.val (.ref b), .val (.int nv)] [(.int (5 : Int32)), (.ref b), (.int (4 : Int32)), (.ref a2128), (.ref a2128), (.ref a2106), (.ref a2106)])) rfl rfl (hb hby own_h645) _ ?_
             exact hh)
            clear k172
            obtain ⟨cl2213, Ar2214, q2215, S2216, Ng2217, H2218, Gf2219⟩ := id V2212
            have hin2220 := inb_of (j := (4 : Int32)) S2216 (by decide)
            obtain ⟨T2221, h2222, X2223, e2224, W2225, st2226⟩ := stC X2206 hx hZ e2207 Ar2214 (j := (4 : Int32)) hin2220 (g := (mkF m 521 #[.val (.ref b), .val (.int nv)] [(.int b5), (.int (4 : Int32)), (.ref a2128), (.ref a2128), (.ref a2106), (.ref a2106)])) rfl rfl (hb hby own_h646)
            have N2227 := Fr.snoc X2223 N2210 G2131
            have K2228 : Keep h2120 h2222 [a2128] := K2211.wr W2225 own_m0
            have V2229 := Arv.set Ar2214 q2215 S2216 Ng2217 H2218 Gf2219 (v := (.int (nar .char b5))) (fits_nar_char _) W2225 4 rfl (own_lt rfl)
            have k174 : own_J p e below T2221 m 522 #[.val (.ref b), .val (.int nv)] [(.ref a2128), (.ref a2106), (.ref a2106)] B_ := fun t_ hh => k173 t_ (st2226 t_ hh)
            clear k173 st2226 X2206 e2207 cl2213 Ar2214 q2215 S2216 Ng2217 H2218 Gf2219 hin2220 W2225 K2211 V2212 N2210
            have k175 : own_J p e below T2221 m 528 #[.val (.ref b), .val (.int nv)] [(.int b6), (.int (5 : Int32)), (.ref a2128), (.ref a2128), (.ref a2106), (.ref a2106)] B_ := fun t_ hh => k174 t_ (by
             refine XS.dup X2223.here hx rfl (hb hby own_h647) rfl rfl ?_
             refine XS.iconst X2223.here hx rfl (hb hby own_h648) ?_
             refine XS.aloadN X2223.here hx rfl (hb hby own_h649) rfl rfl ?_
             refine XS.bipush X2223.here hx rfl (hb hby own_h650) ?_
             refine own_caload X2223 hx hZ e2224 (Arv.keep F2134 K2228 (ninS ne2161 nin0)) (j := (6 : Int32)) (v := (.int b6)) (by decide) rfl (g := (mkF m 527 #[.val (.ref b), .val (.int nv)] [(.int (6 : Int32)), (.ref b), (.int (5 : Int32)), (.ref a2128), (.ref a2128), (.ref a2106), (.ref a2106)])) rfl rfl (hb hby own_h651) _ ?_
             exact hh)
            clear k174
            obtain ⟨cl2230, Ar2231, q2232, S2233, Ng2234, H2235, Gf2236⟩ := id V2229
            have hin2237 := inb_of (j := (5 : Int32)) S2233 (by decide)
            obtain ⟨T2238, h2239, X2240, e2241, W2242, st2243⟩ := stC X2223 hx hZ e2224 Ar2231 (j := (5 : Int32)) hin2237 (g := (mkF m 528 #[.val (.ref b), .val (.int nv)] [(.int b6), (.int (5 : Int32)), (.ref a2128), (.ref a2128), (.ref a2106), (.ref a2106)])) rfl rfl (hb hby own_h652)
            have N2244 := Fr.snoc X2240 N2227 G2131
            have K2245 : Keep h2120 h2239 [a2128] := K2228.wr W2242 own_m0
            have V2246 := Arv.set Ar2231 q2232 S2233 Ng2234 H2235 Gf2236 (v := (.int (nar .char b6))) (fits_nar_char _) W2242 5 rfl (own_lt rfl)
            have k176 : own_J p e below T2238 m 529 #[.val (.ref b), .val (.int nv)] [(.ref a2128), (.ref a2106), (.ref a2106)] B_ := fun t_ hh => k175 t_ (st2243 t_ hh)
            clear k175 st2243 X2223 e2224 cl2230 Ar2231 q2232 S2233 Ng2234 H2235 Gf2236 hin2237 W2242 K2228 V2229 N2227
            have k177 : own_J p e below T2238 m 536 #[.val (.ref b), .val (.int nv)] [(.int b7), (.int (6 : Int32)), (.ref a2128), (.ref a2128), (.ref a2106), (.ref a2106)] B_ := fun t_ hh => k176 t_ (by
             refine XS.dup X2240.here hx rfl (hb hby own_h653) rfl rfl ?_
             refine XS.bipush X2240.here hx rfl (hb hby own_h654) ?_
             refine XS.aloadN X2240.here hx rfl (hb hby own_h655) rfl rfl ?_
             refine XS.bipush X2240.here hx rfl (hb hby own_h656) ?_
             refine own_caload X2240 hx hZ e2241 (Arv.keep F2134 K2245 (ninS ne2161 nin0)) (j := (7 : Int32)) (v := (.int b7)) (by decide) rfl (g := (mkF m 535 #[.val (.ref b), .val (.int nv)] [(.int (7 : Int32)), (.ref b), (.int (6 : Int32)), (.ref a2128), (.ref a2128), (.ref a2106), (.ref a2106)])) rfl rfl (hb hby own_h657) _ ?_
             exact hh)
            clear k176
            obtain ⟨cl2247, Ar2248, q2249, S2250, Ng2251, H2252, Gf2253⟩ := id V2246
            have hin2254 := inb_of (j := (6 : Int32)) S2250 (by decide)
            obtain ⟨T2255, h2256, X2257, e2258, W2259, st2260⟩ := stC X2240 hx hZ e2241 Ar2248 (j := (6 : Int32)) hin2254 (g := (mkF m 536 #[.val (.ref b), .val (.int nv)] [(.int b7), (.int (6 : Int32)), (.ref a2128), (.ref a2128), (.ref a2106), (.ref a2106)])) rfl rfl (hb hby own_h658)
            have N2261 := Fr.snoc X2257 N2244 G2131
            have K2262 : Keep h2120 h2256 [a2128] := K2245.wr W2259 own_m0
            have V2263 := Arv.set Ar2248 q2249 S2250 Ng2251 H2252 Gf2253 (v := (.int (nar .char b7))) (fits_nar_char _) W2259 6 rfl (own_lt rfl)
            have k178 : own_J p e below T2255 m 537 #[.val (.ref b), .val (.int nv)] [(.ref a2128), (.ref a2106), (.ref a2106)] B_ := fun t_ hh => k177 t_ (st2260 t_ hh)
            clear k177 st2260 X2240 e2241 cl2247 Ar2248 q2249 S2250 Ng2251 H2252 Gf2253 hin2254 W2259 K2245 V2246 N2244
            have k179 : own_J p e below T2255 m 544 #[.val (.ref b), .val (.int nv)] [(.int b8), (.int (7 : Int32)), (.ref a2128), (.ref a2128), (.ref a2106), (.ref a2106)] B_ := fun t_ hh => k178 t_ (by
             refine XS.dup X2257.here hx rfl (hb hby own_h659) rfl rfl ?_
             refine XS.bipush X2257.here hx rfl (hb hby own_h660) ?_
             refine XS.aloadN X2257.here hx rfl (hb hby own_h661) rfl rfl ?_
             refine XS.bipush X2257.here hx rfl (hb hby own_h662) ?_
             refine own_caload X2257 hx hZ e2258 (Arv.keep F2134 K2262 (ninS ne2161 nin0)) (j := (8 : Int32)) (v := (.int b8)) (by decide) rfl (g := (mkF m 543 #[.val (.ref b), .val (.int nv)] [(.int (8 : Int32)), (.ref b), (.int (7 : Int32)), (.ref a2128), (.ref a2128), (.ref a2106), (.ref a2106)])) rfl rfl (hb hby own_h663) _ ?_
             exact hh)
            clear k178
            obtain ⟨cl2264, Ar2265, q2266, S2267, Ng2268, H2269, Gf2270⟩ := id V2263
            have hin2271 := inb_of (j := (7 : Int32)) S2267 (by decide)
            obtain ⟨T2272, h2273, X2274, e2275, W2276, st2277⟩ := stC X2257 hx hZ e2258 Ar2265 (j := (7 : Int32)) hin2271 (g := (mkF m 544 #[.val (.ref b), .val (.int nv)] [(.int b8), (.int (7 : Int32)), (.ref a2128), (.ref a2128), (.ref a2106), (.ref a2106)])) rfl rfl (hb hby own_h664)
            have N2278 := Fr.snoc X2274 N2261 G2131
            have K2279 : Keep h2120 h2273 [a2128] := K2262.wr W2276 own_m0
            have V2280 := Arv.set Ar2265 q2266 S2267 Ng2268 H2269 Gf2270 (v := (.int (nar .char b8))) (fits_nar_char _) W2276 7 rfl (own_lt rfl)
            have k180 : own_J p e below T2272 m 545 #[.val (.ref b), .val (.int nv)] [(.ref a2128), (.ref a2106), (.ref a2106)] B_ := fun t_ hh => k179 t_ (st2277 t_ hh)
            clear k179 st2277 X2257 e2258 cl2264 Ar2265 q2266 S2267 Ng2268 H2269 Gf2270 hin2271 W2276 K2262 V2263 N2261
            have k181 : own_J p e below T2272 m 552 #[.val (.ref b), .val (.int nv)] [(.int b9), (.int (8 : Int32)), (.ref a2128), (.ref a2128), (.ref a2106), (.ref a2106)] B_ := fun t_ hh => k180 t_ (by
             refine XS.dup X2274.here hx rfl (hb hby own_h665) rfl rfl ?_
             refine XS.bipush X2274.here hx rfl (hb hby own_h666) ?_
             refine XS.aloadN X2274.here hx rfl (hb hby own_h667) rfl rfl ?_
             refine XS.bipush X2274.here hx rfl (hb hby own_h668) ?_
             refine own_caload X2274 hx hZ e2275 (Arv.keep F2134 K2279 (ninS ne2161 nin0)) (j := (9 : Int32)) (v := (.int b9)) (by decide) rfl (g := (mkF m 551 #[.val (.ref b), .val (.int nv)] [(.int (9 : Int32)), (.ref b), (.int (8 : Int32)), (.ref a2128), (.ref a2128), (.ref a2106), (.ref a2106)])) rfl rfl (hb hby own_h669) _ ?_
             exact hh)
            clear k180
            obtain ⟨cl2281, Ar2282, q2283, S2284, Ng2285, H2286, Gf2287⟩ := id V2280
            have hin2288 := inb_of (j := (8 : Int32)) S2284 (by decide)
            obtain ⟨T2289, h2290, X2291, e2292, W2293, st2294⟩ := stC X2274 hx hZ e2275 Ar2282 (j := (8 : Int32)) hin2288 (g := (mkF m 552 #[.val (.ref b), .val (.int nv)] [(.int b9), (.int (8 : Int32)), (.ref a2128), (.ref a2128), (.ref a2106), (.ref a2106)])) rfl rfl (hb hby own_h670)
            have N2295 := Fr.snoc X2291 N2278 G2131
            have K2296 : Keep h2120 h2290 [a2128] := K2279.wr W2293 own_m0
            have V2297 := Arv.set Ar2282 q2283 S2284 Ng2285 H2286 Gf2287 (v := (.int (nar .char b9))) (fits_nar_char _) W2293 8 rfl (own_lt rfl)
            have k182 : own_J p e below T2289 m 553 #[.val (.ref b), .val (.int nv)] [(.ref a2128), (.ref a2106), (.ref a2106)] B_ := fun t_ hh => k181 t_ (st2294 t_ hh)
            clear k181 st2294 X2274 e2275 cl2281 Ar2282 q2283 S2284 Ng2285 H2286 Gf2287 hin2288 W2293 K2279 V2280 N2278
            have k183 : own_J p e below T2289 m 560 #[.val (.ref b), .val (.int nv)] [(.int b10), (.int (9 : Int32)), (.ref a2128), (.ref a2128), (.ref a2106), (.ref a2106)] B_ := fun t_ hh => k182 t_ (by
             refine XS.dup X2291.here hx rfl (hb hby own_h671) rfl rfl ?_
             refine XS.bipush X2291.here hx rfl (hb hby own_h672) ?_
             refine XS.aloadN X2291.here hx rfl (hb hby own_h673) rfl rfl ?_
             refine XS.bipush X2291.here hx rfl (hb hby own_h674) ?_
             refine own_caload X2291 hx hZ e2292 (Arv.keep F2134 K2296 (ninS ne2161 nin0)) (j := (10 : Int32)) (v := (.int b10)) (by decide) rfl (g := (mkF m 559 #[.val (.ref b), .val (.int nv)] [(.int (10 : Int32)), (.ref b), (.int (9 : Int32)), (.ref a2128), (.ref a2128), (.ref a2106), (.ref a2106)])) rfl rfl (hb hby own_h675) _ ?_
             exact hh)
            clear k182
            obtain ⟨cl2298, Ar2299, q2300, S2301, Ng2302, H2303, Gf2304⟩ := id V2297
            have hin2305 := inb_of (j := (9 : Int32)) S2301 (by decide)
            obtain ⟨T2306, h2307, X2308, e2309, W2310, st2311⟩ := stC X2291 hx hZ e2292 Ar2299 (j := (9 : Int32)) hin2305 (g := (mkF m 560 #[.val (.ref b), .val (.int nv)] [(.int b10), (.int (9 : Int32)), (.ref a2128), (.ref a2128), (.ref a2106), (.ref a2106)])) rfl rfl (hb hby own_h676)
            have N2312 := Fr.snoc X2308 N2295 G2131
            have K2313 : Keep h2120 h2307 [a2128] := K2296.wr W2310 own_m0
            have V2314 := Arv.set Ar2299 q2300 S2301 Ng2302 H2303 Gf2304 (v := (.int (nar .char b10))) (fits_nar_char _) W2310 9 rfl (own_lt rfl)
            have k184 : own_J p e below T2306 m 561 #[.val (.ref b), .val (.int nv)] [(.ref a2128), (.ref a2106), (.ref a2106)] B_ := fun t_ hh => k183 t_ (st2311 t_ hh)
            clear k183 st2311 X2291 e2292 cl2298 Ar2299 q2300 S2301 Ng2302 H2303 Gf2304 hin2305 W2310 K2296 V2297 N2295
            have V2315 : Arv Z h2307 a2128 kA2121 .char (10 : Int32) [(.int (nar .char b1)), (.int (nar .char b2)), (.int (nar .char b3)), (.int (nar .char b4)), (.int (nar .char b5)), (.int (nar .char b6)), (.int (nar .char b7)), (.int (nar .char b8)), (.int (nar .char b9)), (.int (nar .char b10))] (.int (0 : Int32)) := V2314
            have F2316 := F2134.keep K2313 (ninS ne2161 nin0)
            have F2317 := F2135.keep K2313
            have ne2319 : a2106 ≠ a2128 := by rw [g2129]; exact Nat.ne_of_lt A2102.lt
            have F2318 := F2136.keep K2313 (ninS ne2319 nin0)
            have F2320 := F2137.keep K2313 (ninS ne2319 nin0)
            have Z2321 : n0 ≤ h2307.size := Nat.le_trans Z2138 K2313.1
            have hk2322 := Nat.le_trans hk2132 K2313.1
            have Sf2323 := Safe.keep K2313 (allS Sf2133 all0) Cr2142.1 Sf2141
            have Sf2324 := Safe.keep K2313 (allS Sf2133 all0) Cr2142.1 Sf2133
            have Cr2325 := Cr2142.trans (CHr.keep K2313 (allS Sf2133 all0) Cr2142.1)
            have O2326 := O2139.keep K2313 (allS G2131 all0)
            have P2327 : Keep h0 h2307 [] := P2140.trans K2313 (allS (P := fun x => x ∈ [] ∨ h0.size ≤ x) (Or.inr H02130) all0)
            have F2328 : Arv Z h2307 a2128 kA2121 .char (Int32.ofNat 10) (([b1, b2, b3, b4, b5, b6, b7, b8, b9, b10] : List Int32).map Value.int) (.int 0) := by have q := V2315; simp only [e1_, e2_, e3_, e4_, e5_, e6_, e7_, e8_, e9_, e10_] at q; exact q
            have hcs2329 : own_chs ([b1, b2, b3, b4, b5, b6, b7, b8, b9, b10] : List Int32) := own_chs_drop (cs := [b0, b1, b2, b3, b4, b5, b6, b7, b8, b9, b10]) 1 hbc
            by_cases hA : ∀ c ∈ ([b1, b2, b3, b4, b5, b6, b7, b8, b9, b10] : List Int32), ¬ (255 : Int32) < c
            ·
             obtain ⟨_, _, ⟨T2330, L2331, k_2332, n_2333⟩, -, X2334, ⟨Lc2335, hQ2336, l_2337, y_2338, z_2339⟩, st2340⟩ := X2308.specialBack hx (y := (⟨"java/lang/String", "<init>", "([C)V"⟩ : MethodName)) rfl hown (mvT hZ (wT hw 26 rfl)) (mvT hZ (wT hw 27 rfl)) (mvT hZ (wT hw 28 rfl)) (by decide) (StrChars.Road.backV (W := 1) hZ (fun d hd => hw d (own_sub_words d hd)) (kI := 4) (wT hw 24 rfl) (cs := ([b1, b2, b3, b4, b5, b6, b7, b8, b9, b10] : List Int32)) (n0 := n0) G2109 Z2321 F2317 F2320 F2318 F2328 (Sta.ext O2326.2 sC) hc rfl rfl (own_lt rfl) (own_l rfl) (own_b8s hcs2329 hA) rfl (by decide) (by decide)) (g := (mkF m 561 #[.val (.ref b), .val (.int nv)] [(.ref a2128), (.ref a2106), (.ref a2106)])) rfl (by rw [hml]; rfl) (Steps.refl _) (a := a2106) (argsL := [(.ref a2128)]) (rest := [(.ref a2106)]) (lenOf own_h257 rfl) rfl (by show 2 * 0 + _ ≤ _; exact Nat.le_of_eq rfl) (hb hby own_h677) (fun _ _ => ⟨rfl, e2309, own_l rfl, own_l rfl⟩)
             dsimp only [Pt.U, Pt.locs, Pt.cells, Pt.slots] at X2334 l_2337 y_2338 z_2339 st2340 hQ2336
             replace l_2337 := l_2337.symm
             subst l_2337 y_2338 z_2339
             obtain ⟨rfl, N2341, K2342, E2343, F2344, t2345, kb2346, G2347, G2348, G2349, F2350, F2351⟩ := hQ2336
             have N2352 := Fr.app N2312 N2341
             have ne2354 : b ≠ a2106 := by rw [g2107]; exact Nat.ne_of_lt Fb.lt
             have F2353 := F2316.keep K2342 (ninS ne2354 nin0)
             have F2355 := F2317.keep K2342
             have F2356 := F2328.keep K2342 (ninS (Ne.symm ne2319) nin0)
             have Z2357 : n0 ≤ T2330.heap.size := Nat.le_trans Z2321 K2342.1
             have hk2358 := Nat.le_trans hk2322 K2342.1
             have Sf2359 := Safe.keep K2342 (allS Sf2323 all0) Cr2325.1 Sf2323
             have Sf2360 := Safe.keep K2342 (allS Sf2323 all0) Cr2325.1 Sf2324
             have Cr2361 := Cr2325.trans (CHr.keep K2342 (allS Sf2323 all0) Cr2325.1)
             have O2362 := O2326.keep K2342 (allS G2109 all0)
             have P2363 : Keep h0 T2330.heap [] := P2327.trans K2342 (allS (P := fun x => x ∈ [] ∨ h0.size ≤ x) (Or.inr H02108) all0)
             have S2364 : own_Str Z T2330.heap a2106 t2345 kb2346 ([b1, b2, b3, b4, b5, b6, b7, b8, b9, b10] : List Int32) := ⟨E2343, F2350, F2344, F2351⟩
             have e2365 : T2330.heap = T2330.heap := rfl
             have k185 : own_J p e below T2330 m 564 #[.val (.ref b), .val (.int nv)] [(.ref a2106)] B_ := fun t_ hh => k184 t_ (st2340.trans hh)
             clear k184 st2340 X2308 e2309
             obtain ⟨fs, hr, hrun, hended, hEnd⟩ := X2334.leaveW hS0 (by rw [e2365]; exact hk2358) (v := some (.ref a2106)) (fun h => by rw [Bd.returns] at h; cases h)
             refine ⟨_, _, (own_from hB_ (k185 _ (retOut X2334 hx (t := .object "java/lang/String") Bd.returns rfl (Or.inr (Or.inr (Or.inr (Or.inr ⟨rfl, rfl, rfl⟩)))) (hb hby own_h678) hr))), hrun, hended, _, _, rfl, ?_, ?_, hEnd.1, hEnd.2.1, hEnd.2.2.1, hEnd.2.2.2.mono (own_l rfl) (own_l rfl)⟩
             rotate_left
             · show CHr Z own_EL s.vm s.heap T2330.vm T2330.heap
               rw [hh, e2365]
               exact Cr2361.trans (CHv.at X2334 hZ (own_EW hw) Cr2361.1)
             show Q_mk Z nv b0 b1 b2 b3 b4 b5 b6 b7 b8 b9 b10 h0 n0 _ T2330.heap _
             rw [e2365]
             exact ⟨a2106, rfl, N2352, P2363, G2109, E2343, by rw [c481]; exact (Or.inl ⟨t2345, kb2346, S2364, own_b8s hcs2329 hA⟩)⟩
            ·
             obtain ⟨k, hk, hkb, hlo⟩ := own_first _ hA
             obtain ⟨_, _, ⟨T2366, L2367, k_2368, n_2369⟩, -, X2370, ⟨Lc2371, hQ2372, l_2373, y_2374, z_2375⟩, st2376⟩ := X2308.specialBack hx (y := (⟨"java/lang/String", "<init>", "([C)V"⟩ : MethodName)) rfl hown (mvT hZ (wT hw 26 rfl)) (mvT hZ (wT hw 27 rfl)) (mvT hZ (wT hw 28 rfl)) (by decide) (backOf (W := 1) (rmI2 l Z a0 hw [] a2106 a2128 kA2121 ([b1, b2, b3, b4, b5, b6, b7, b8, b9, b10] : List Int32) k h2307 n0 Z2321 F2317 F2320 F2318 G2109 F2328 (own_l rfl) hcs2329 hk hkb hlo O2326 (Ne.symm ne2319) sA sH sL ci sC hc) hZ (wT hw 28 rfl) (wT hw 25 rfl) (by decide) (by decide)) (g := (mkF m 561 #[.val (.ref b), .val (.int nv)] [(.ref a2128), (.ref a2106), (.ref a2106)])) rfl (by rw [hml]; rfl) (Steps.refl _) (a := a2106) (argsL := [(.ref a2128)]) (rest := [(.ref a2106)]) (lenOf own_h257 rfl) rfl (by show 2 * 0 + _ ≤ _; exact Nat.le_of_eq rfl) (hb hby own_h677) (fun _ _ => ⟨rfl, e2309, own_l rfl, own_l rfl⟩)
             dsimp only [Pt.U, Pt.locs, Pt.cells, Pt.slots] at X2370 l_2373 y_2374 z_2375 st2376 hQ2372
             replace l_2373 := l_2373.symm
             subst l_2373 y_2374 z_2375
             obtain ⟨t2378, kt2379, ds2380, rfl, N2377, K2388, F2381, F2382, F2383, F2384, F2385, F2386, F2387, -⟩ := hQ2372
             have N2389 := Fr.app N2312 N2377
             have H02390 : h0.size ≤ t2378 := Nat.le_trans P2327.1 F2387
             have ne2392 : b ≠ a2106 := by rw [g2107]; exact Nat.ne_of_lt Fb.lt
             have F2391 := F2316.keep K2388 (ninS ne2392 nin0)
             have F2393 := F2317.keep K2388
             have F2394 := F2328.keep K2388 (ninS (Ne.symm ne2319) nin0)
             have Z2395 : n0 ≤ T2366.heap.size := Nat.le_trans Z2321 K2388.1
             have hk2396 := Nat.le_trans hk2322 K2388.1
             have Sf2397 := Safe.keep K2388 (allS Sf2323 all0) Cr2325.1 Sf2323
             have Sf2398 := Safe.keep K2388 (allS Sf2323 all0) Cr2325.1 Sf2324
             have Cr2399 := Cr2325.trans (CHr.keep K2388 (allS Sf2323 all0) Cr2325.1)
             have O2400 := O2326.keep K2388 (allS G2109 all0)
             have P2401 : Keep h0 T2366.heap [] := P2327.trans K2388 (allS (P := fun x => x ∈ [] ∨ h0.size ≤ x) (Or.inr H02108) all0)
             have e2402 : T2366.heap = T2366.heap := rfl
             have k186 : own_J p e below T2366 m 564 #[.val (.ref b), .val (.int nv)] [(.ref a2106)] B_ := fun t_ hh => k184 t_ (st2376.trans hh)
             clear k184 st2376 X2308 e2309
             obtain ⟨fs, hr, hrun, hended, hEnd⟩ := X2370.leaveW hS0 (by rw [e2402]; exact hk2396) (v := some (.ref a2106)) (fun h => by rw [Bd.returns] at h; cases h)
             refine ⟨_, _, (own_from hB_ (k186 _ (retOut X2370 hx (t := .object "java/lang/String") Bd.returns rfl (Or.inr (Or.inr (Or.inr (Or.inr ⟨rfl, rfl, rfl⟩)))) (hb hby own_h678) hr))), hrun, hended, _, _, rfl, ?_, ?_, hEnd.1, hEnd.2.1, hEnd.2.2.1, hEnd.2.2.2.mono (own_l rfl) (own_l rfl)⟩
             rotate_left
             · show CHr Z own_EL s.vm s.heap T2366.vm T2366.heap
               rw [hh, e2402]
               exact Cr2399.trans (CHv.at X2370 hZ (own_EW hw) Cr2399.1)
             show Q_mk Z nv b0 b1 b2 b3 b4 b5 b6 b7 b8 b9 b10 h0 n0 _ T2366.heap _
             rw [e2402]
             exact ⟨a2106, rfl, N2389, P2401, G2109, F2381, by rw [c481]; exact (Or.inr ⟨t2378, kt2379, ds2380, F2381, F2382, F2383, F2384, F2385⟩)⟩
           ·
            have k187 : own_J p e below s₁ m 565 #[.val (.ref b), .val (.int nv)] [] B_ := fun t_ hh => k160 t_ (by
             refine XS.icmpYes X0.here hx rfl (pc0 := 481) (pc' := 565) rfl (hb hby own_h612) rfl (own_icT_ne c481) (by decide) (by decide) ?_
             exact hh)
            clear k160
            obtain ⟨T2403, h2404, X2405, e2406, E2407, A2408, D2409, U2411, st2410⟩ := newO X0 hx hZ hown (wT hw 23 rfl) (wT hw 24 rfl) (wT hw 25 rfl) e0 (g := (mkF m 565 #[.val (.ref b), .val (.int nv)] [])) rfl (hb hby own_h679) (by decide) (by decide)
            obtain ⟨a2412, g2413⟩ : ∃ z, z = h0.size := ⟨_, rfl⟩
            rw [← g2413] at A2408 D2409 U2411 st2410
            have H02414 : h0.size ≤ a2412 := Nat.le_trans K0.1 (Nat.le_of_eq g2413.symm)
            have G2415 : n0 ≤ a2412 := Nat.le_trans Z0 (Nat.le_of_eq g2413.symm)
            have hk2416 := Nat.le_trans hk0 E2407.1
            have Sf2417 := Safe.ext E2407 Cr0.1 (Safe.new (x := a2412) (Nat.le_of_eq g2413.symm))
            have F2418 := Fb.ext E2407
            have Z2419 : n0 ≤ h2404.size := Nat.le_trans Z0 E2407.1
            have O2420 := O0.ext E2407
            have P2421 : Keep h0 h2404 [] := K0.ext E2407
            have Cr2422 := Cr0.trans (CHr.ext E2407 Cr0.1)
            have F2423 : Fld Z h2404 a2412 "java/lang/String" "coder" "B" (.int (0 : Int32)) := D2409 (Or.inr (wT hw 49 rfl)) (ty := .byte) (by decide)
            have F2424 : Fld Z h2404 a2412 "java/lang/String" "value" "[B" .null := D2409 (Or.inr (wT hw 51 rfl)) (ty := .array .byte) (by decide)
            have k188 : own_J p e below T2403 m 568 #[.val (.ref b), .val (.int nv)] [(.ref a2412)] B_ := fun t_ hh => k187 t_ (st2410 t_ hh)
            clear k187 st2410
            have k189 : own_J p e below T2403 m 571 #[.val (.ref b), .val (.int nv)] [(.int (11 : Int32)), (.ref a2412), (.ref a2412)] B_ := fun t_ hh => k188 t_ (by
             refine XS.dup X2405.here hx rfl (hb hby own_h680) rfl rfl ?_
             refine XS.bipush X2405.here hx rfl (hb hby own_h681) ?_
             exact hh)
            clear k188
            obtain ⟨T2425, h2426, kA2427, X2428, e2429, E2430, A2431, st2433⟩ := newP X2405 hx hZ (wT hw 15 rfl) e2406 (g := (mkF m 571 #[.val (.ref b), .val (.int nv)] [(.int (11 : Int32)), (.ref a2412), (.ref a2412)])) rfl (hb hby own_h682) rfl (by decide) (cap := 11) (by decide) (by decide) (by decide) (by decide)
            obtain ⟨a2434, g2435⟩ : ∃ z, z = h2404.size := ⟨_, rfl⟩
            rw [← g2435] at A2431 st2433
            have H02436 : h0.size ≤ a2434 := Nat.le_trans P2421.1 (Nat.le_of_eq g2435.symm)
            have G2437 : n0 ≤ a2434 := Nat.le_trans Z2419 (Nat.le_of_eq g2435.symm)
            have hk2438 := Nat.le_trans hk2416 E2430.1
            have Sf2439 := Safe.ext E2430 Cr2422.1 (Safe.new (x := a2434) (Nat.le_of_eq g2435.symm))
            have F2440 := F2418.ext E2430
            have F2441 := Exa.ext (h' := h2426) E2430 A2408
            have F2442 := Fld.ext (h' := h2426) E2430 F2423
            have F2443 := Fld.ext (h' := h2426) E2430 F2424
            have Z2444 : n0 ≤ h2426.size := Nat.le_trans Z2419 E2430.1
            have O2445 := O2420.ext E2430
            have P2446 : Keep h0 h2426 [] := P2421.ext E2430
            have Sf2447 := Safe.ext E2430 Cr2422.1 Sf2417
            have Cr2448 := Cr2422.trans (CHr.ext E2430 Cr2422.1)
            have V2449 : Arv Z h2426 a2434 kA2427 .char (11 : Int32) [(.int (0 : Int32)), (.int (0 : Int32)), (.int (0 : Int32)), (.int (0 : Int32)), (.int (0 : Int32)), (.int (0 : Int32)), (.int (0 : Int32)), (.int (0 : Int32)), (.int (0 : Int32)), (.int (0 : Int32)), (.int (0 : Int32))] (.int (0 : Int32)) := Arv.pad (Arv.new A2431 (by decide)) (pad_rep [] (.int (0 : Int32)) 11)
            have k190 : own_J p e below T2425 m 573 #[.val (.ref b), .val (.int nv)] [(.ref a2434), (.ref a2412), (.ref a2412)] B_ := fun t_ hh => k189 t_ (st2433 t_ hh)
            clear k189 st2433 X2405 e2406
            have k191 : own_J p e below T2425 m 578 #[.val (.ref b), .val (.int nv)] [(.int b0), (.int (0 : Int32)), (.ref a2434), (.ref a2434), (.ref a2412), (.ref a2412)] B_ := fun t_ hh => k190 t_ (by
             refine XS.dup X2428.here hx rfl (hb hby own_h683) rfl rfl ?_
             refine XS.iconst X2428.here hx rfl (hb hby own_h684) ?_
             refine XS.aloadN X2428.here hx rfl (hb hby own_h685) rfl rfl ?_
             refine XS.iconst X2428.here hx rfl (hb hby own_h686) ?_
             refine own_caload X2428 hx hZ e2429 F2440 (j := (0 : Int32)) (v := (.int b0)) (by decide) rfl (g := (mkF m 577 #[.val (.ref b), .val (.int nv)] [(.int (0 : Int32)), (.ref b), (.int (0 : Int32)), (.ref a2434), (.ref a2434), (.ref a2412), (.ref a2412)])) rfl rfl (hb hby own_h687) _ ?_
             exact hh)
            clear k190
            obtain ⟨cl2450, Ar2451, q2452, S2453, Ng2454, H2455, Gf2456⟩ := id V2449
            have hin2457 := inb_of (j := (0 : Int32)) S2453 (by decide)
            obtain ⟨T2458, h2459, X2460, e2461, W2462, st2463⟩ := stC X2428 hx hZ e2429 Ar2451 (j := (0 : Int32)) hin2457 (g := (mkF m 578 #[.val (.ref b), .val (.int nv)] [(.int b0), (.int (0 : Int32)), (.ref a2434), (.ref a2434), (.ref a2412), (.ref a2412)])) rfl rfl (hb hby own_h688)
            have N2464 := Fr.snoc X2460 N0 G2437
            have K2465 : Keep h2426 h2459 [a2434] := Keep.of_wr W2462
            have V2466 := Arv.set Ar2451 q2452 S2453 Ng2454 H2455 Gf2456 (v := (.int (nar .char b0))) (fits_nar_char _) W2462 0 rfl (own_lt rfl)
            have k192 : own_J p e below T2458 m 579 #[.val (.ref b), .val (.int nv)] [(.ref a2434), (.ref a2412), (.ref a2412)] B_ := fun t_ hh => k191 t_ (st2463 t_ hh)
            clear k191 st2463 X2428 e2429 cl2450 Ar2451 q2452 S2453 Ng2454 H2455 Gf2456 hin2457 W2462 V2449
            have ne2467 : b ≠ a2434 := by rw [g2435]; exact Nat.ne_of_lt F2418.lt
            have k193 : own_J p e below T2458 m 584 #[.val (.ref b), .val (.int nv)] [(.int b1), (.int (1 : Int32)), (.ref a2434), (.ref a2434), (.ref a2412), (.ref a2412)] B_ := fun t_ hh => k192 t_ (by
             refine XS.dup X2460.here hx rfl (hb hby own_h689) rfl rfl ?_
             refine XS.iconst X2460.here hx rfl (hb hby own_h690) ?_
             refine XS.aloadN X2460.here hx rfl (hb hby own_h691) rfl rfl ?_
             refine XS.iconst X2460.here hx rfl (hb hby own_h692) ?_
             refine own_caload X2460 hx hZ e2461 (Arv.keep F2440 K2465 (ninS ne2467 nin0)) (j := (1 : Int32)) (v := (.int b1)) (by decide) rfl (g := (mkF m 583 #[.val (.ref b), .val (.int nv)] [(.int (1 : Int32)), (.ref b), (.int (1 : Int32)), (.ref a2434), (.ref a2434), (.ref a2412), (.ref a2412)])) rfl rfl (hb hby own_h693) _ ?_
             exact hh)
            clear k192
            obtain ⟨cl2468, Ar2469, q2470, S2471, Ng2472, H2473, Gf2474⟩ := id V2466
            have hin2475 := inb_of (j := (1 : Int32)) S2471 (by decide)
            obtain ⟨T2476, h2477, X2478, e2479, W2480, st2481⟩ := stC X2460 hx hZ e2461 Ar2469 (j := (1 : Int32)) hin2475 (g := (mkF m 584 #[.val (.ref b), .val (.int nv)] [(.int b1), (.int (1 : Int32)), (.ref a2434), (.ref a2434), (.ref a2412), (.ref a2412)])) rfl rfl (hb hby own_h694)
            have N2482 := Fr.snoc X2478 N2464 G2437
            have K2483 : Keep h2426 h2477 [a2434] := K2465.wr W2480 own_m0
            have V2484 := Arv.set Ar2469 q2470 S2471 Ng2472 H2473 Gf2474 (v := (.int (nar .char b1))) (fits_nar_char _) W2480 1 rfl (own_lt rfl)
            have k194 : own_J p e below T2476 m 585 #[.val (.ref b), .val (.int nv)] [(.ref a2434), (.ref a2412), (.ref a2412)] B_ := fun t_ hh => k193 t_ (st2481 t_ hh)
            clear k193 st2481 X2460 e2461 cl2468 Ar2469 q2470 S2471 Ng2472 H2473 Gf2474 hin2475 W2480 K2465 V2466 N2464
            have k195 : own_J p e below T2476 m 590 #[.val (.ref b), .val (.int nv)] [(.int b2), (.int (2 : Int32)), (.ref a2434), (.ref a2434), (.ref a2412), (.ref a2412)] B_ := fun t_ hh => k194 t_ (by
             refine XS.dup X2478.here hx rfl (hb hby own_h695) rfl rfl ?_
             refine XS.iconst X2478.here hx rfl (hb hby own_h696) ?_
             refine XS.aloadN X2478.here hx rfl (hb hby own_h697) rfl rfl ?_
             refine XS.iconst X2478.here hx rfl (hb hby own_h698) ?_
             refine own_caload X2478 hx hZ e2479 (Arv.keep F2440 K2483 (ninS ne2467 nin0)) (j := (2 : Int32)) (v := (.int b2)) (by decide) rfl (g := (mkF m 589 #[.val (.ref b), .val (.int nv)] [(.int (2 : Int32)), (.ref b), (.int (2 : Int32)), (.ref a2434), (.ref a2434), (.ref a2412), (.ref a2412)])) rfl rfl (hb hby own_h699) _ ?_
             exact hh)
            clear k194
            obtain ⟨cl2485, Ar2486, q2487, S2488, Ng2489, H2490, Gf2491⟩ := id V2484
            have hin2492 := inb_of (j := (2 : Int32)) S2488 (by decide)
            obtain ⟨T2493, h2494, X2495, e2496, W2497, st2498⟩ := stC X2478 hx hZ e2479 Ar2486 (j := (2 : Int32)) hin2492 (g := (mkF m 590 #[.val (.ref b), .val (.int nv)] [(.int b2), (.int (2 : Int32)), (.ref a2434), (.ref a2434), (.ref a2412), (.ref a2412)])) rfl rfl (hb hby own_h700)
            have N2499 := Fr.snoc X2495 N2482 G2437
            have K2500 : Keep h2426 h2494 [a2434] := K2483.wr W2497 own_m0
            have V2501 := Arv.set Ar2486 q2487 S2488 Ng2489 H2490 Gf2491 (v := (.int (nar .char b2))) (fits_nar_char _) W2497 2 rfl (own_lt rfl)
            have k196 : own_J p e below T2493 m 591 #[.val (.ref b), .val (.int nv)] [(.ref a2434), (.ref a2412), (.ref a2412)] B_ := fun t_ hh => k195 t_ (st2498 t_ hh)
            clear k195 st2498 X2478 e2479 cl2485 Ar2486 q2487 S2488 Ng2489 H2490 Gf2491 hin2492 W2497 K2483 V2484 N2482
            have k197 : own_J p e below T2493 m 596 #[.val (.ref b), .val (.int nv)] [(.int b3), (.int (3 : Int32)), (.ref a2434), (.ref a2434), (.ref a2412), (.ref a2412)] B_ := fun t_ hh => k196 t_ (by
             refine XS.dup X2495.here hx rfl (hb hby own_h701) rfl rfl ?_
             refine XS.iconst X2495.here hx rfl (hb hby own_h702) ?_
             refine XS.aloadN X2495.here hx rfl (hb hby own_h703) rfl rfl ?_
             refine XS.iconst X2495.here hx rfl (hb hby own_h704) ?_
             refine own_caload X2495 hx hZ e2496 (Arv.keep F2440 K2500 (ninS ne2467 nin0)) (j := (3 : Int32)) (v := (.int b3)) (by decide) rfl (g := (mkF m 595 #[.val (.ref b), .val (.int nv)] [(.int (3 : Int32)), (.ref b), (.int (3 : Int32)), (.ref a2434), (.ref a2434), (.ref a2412), (.ref a2412)])) rfl rfl (hb hby own_h705) _ ?_
             exact hh)
            clear k196
            obtain ⟨cl2502, Ar2503, q2504, S2505, Ng2506, H2507, Gf2508⟩ := id V2501
            have hin2509 := inb_of (j := (3 : Int32)) S2505 (by decide)
            obtain ⟨T2510, h2511, X2512, e2513, W2514, st2515⟩ := stC X2495 hx hZ e2496 Ar2503 (j := (3 : Int32)) hin2509 (g := (mkF m 596 #[.val (.ref b), .val (.int nv)] [(.int b3), (.int (3 : Int32)), (.ref a2434), (.ref a2434), (.ref a2412), (.ref a2412)])) rfl rfl (hb hby own_h706)
            have N2516 := Fr.snoc X2512 N2499 G2437
            have K2517 : Keep h2426 h2511 [a2434] := K2500.wr W2514 own_m0
            have V2518 := Arv.set Ar2503 q2504 S2505 Ng2506 H2507 Gf2508 (v := (.int (nar .char b3))) (fits_nar_char _) W2514 3 rfl (own_lt rfl)
            have k198 : own_J p e below T2510 m 597 #[.val (.ref b), .val (.int nv)] [(.ref a2434), (.ref a2412), (.ref a2412)] B_ := fun t_ hh => k197 t_ (st2515 t_ hh)
            clear k197 st2515 X2495 e2496 cl2502 Ar2503 q2504 S2505 Ng2506 H2507 Gf2508 hin2509 W2514 K2500 V2501 N2499
            have k199 : own_J p e below T2510 m 602 #[.val (.ref b), .val (.int nv)] [(.int b4), (.int (4 : Int32)), (.ref a2434), (.ref a2434), (.ref a2412), (.ref a2412)] B_ := fun t_ hh => k198 t_ (by
             refine XS.dup X2512.here hx rfl (hb hby own_h707) rfl rfl ?_
             refine XS.iconst X2512.here hx rfl (hb hby own_h708) ?_
             refine XS.aloadN X2512.here hx rfl (hb hby own_h709) rfl rfl ?_
             refine XS.iconst X2512.here hx rfl (hb hby own_h710) ?_
             refine own_caload X2512 hx hZ e2513 (Arv.keep F2440 K2517 (ninS ne2467 nin0)) (j := (4 : Int32)) (v := (.int b4)) (by decide) rfl (g := (mkF m 601 #[.val (.ref b), .val (.int nv)] [(.int (4 : Int32)), (.ref b), (.int (4 : Int32)), (.ref a2434), (.ref a2434), (.ref a2412), (.ref a2412)])) rfl rfl (hb hby own_h711) _ ?_
             exact hh)
            clear k198
            obtain ⟨cl2519, Ar2520, q2521, S2522, Ng2523, H2524, Gf2525⟩ := id V2518
            have hin2526 := inb_of (j := (4 : Int32)) S2522 (by decide)
            obtain ⟨T2527, h2528, X2529, e2530, W2531, st2532⟩ := stC X2512 hx hZ e2513 Ar2520 (j := (4 : Int32)) hin2526 (g := (mkF m 602 #[.val (.ref b), .val (.int nv)] [(.int b4), (.int (4 : Int32)), (.ref a2434), (.ref a2434), (.ref a2412), (.ref a2412)])) rfl rfl (hb hby own_h712)
            have N2533 := Fr.snoc X2529 N2516 G2437
            have K2534 : Keep h2426 h2528 [a2434] := K2517.wr W2531 own_m0
            have V2535 := Arv.set Ar2520 q2521 S2522 Ng2523 H2524 Gf2525 (v := (.int (nar .char b4))) (fits_nar_char _) W2531 4 rfl (own_lt rfl)
            have k200 : own_J p e below T2527 m 603 #[.val (.ref b), .val (.int nv)] [(.ref a2434), (.ref a2412), (.ref a2412)] B_ := fun t_ hh => k199 t_ (st2532 t_ hh)
            clear k199 st2532 X2512 e2513 cl2519 Ar2520 q2521 S2522 Ng2523 H2524 Gf2525 hin2526 W2531 K2517 V2518 N2516
            have k201 : own_J p e below T2527 m 608 #[.val (.ref b), .val (.int nv)] [(.int b5), (.int (5 : Int32)), (.ref a2434), (.ref a2434), (.ref a2412), (.ref a2412)] B_ := fun t_ hh => k200 t_ (by
             refine XS.dup X2529.here hx rfl (hb hby own_h713) rfl rfl ?_
             refine XS.iconst X2529.here hx rfl (hb hby own_h714) ?_
             refine XS.aloadN X2529.here hx rfl (hb hby own_h715) rfl rfl ?_
             refine XS.iconst X2529.here hx rfl (hb hby own_h716) ?_
             refine own_caload X2529 hx hZ e2530 (Arv.keep F2440 K2534 (ninS ne2467 nin0)) (j := (5 : Int32)) (v := (.int b5)) (by decide) rfl (g := (mkF m 607 #[.val (.ref b), .val (.int nv)] [(.int (5 : Int32)), (.ref b), (.int (5 : Int32)), (.ref a2434), (.ref a2434), (.ref a2412), (.ref a2412)])) rfl rfl (hb hby own_h717) _ ?_
             exact hh)
            clear k200
            obtain ⟨cl2536, Ar2537, q2538, S2539, Ng2540, H2541, Gf2542⟩ := id V2535
            have hin2543 := inb_of (j := (5 : Int32)) S2539 (by decide)
            obtain ⟨T2544, h2545, X2546, e2547, W2548, st2549⟩ := stC X2529 hx hZ e2530 Ar2537 (j := (5 : Int32)) hin2543 (g := (mkF m 608 #[.val (.ref b), .val (.int nv)] [(.int b5), (.int (5 : Int32)), (.ref a2434), (.ref a2434), (.ref a2412), (.ref a2412)])) rfl rfl (hb hby own_h718)
            have N2550 := Fr.snoc X2546 N2533 G2437
            have K2551 : Keep h2426 h2545 [a2434] := K2534.wr W2548 own_m0
            have V2552 := Arv.set Ar2537 q2538 S2539 Ng2540 H2541 Gf2542 (v := (.int (nar .char b5))) (fits_nar_char _) W2548 5 rfl (own_lt rfl)
            have k202 : own_J p e below T2544 m 609 #[.val (.ref b), .val (.int nv)] [(.ref a2434), (.ref a2412), (.ref a2412)] B_ := fun t_ hh => k201 t_ (st2549 t_ hh)
            clear k201 st2549 X2529 e2530 cl2536 Ar2537 q2538 S2539 Ng2540 H2541 Gf2542 hin2543 W2548 K2534 V2535 N2533
            have k203 : own_J p e below T2544 m 616 #[.val (.ref b), .val (.int nv)] [(.int b6), (.int (6 : Int32)), (.ref a2434), (.ref a2434), (.ref a2412), (.ref a2412)] B_ := fun t_ hh => k202 t_ (by
             refine XS.dup X2546.here hx rfl (hb hby own_h719) rfl rfl ?_
             refine XS.bipush X2546.here hx rfl (hb hby own_h720) ?_
             refine XS.aloadN X2546.here hx rfl (hb hby own_h721) rfl rfl ?_
             refine XS.bipush X2546.here hx rfl (hb hby own_h722) ?_
             refine own_caload X2546 hx hZ e2547 (Arv.keep F2440 K2551 (ninS ne2467 nin0)) (j := (6 : Int32)) (v := (.int b6)) (by decide) rfl (g := (mkF m 615 #[.val (.ref b), .val (.int nv)] [(.int (6 : Int32)), (.ref b), (.int (6 : Int32)), (.ref a2434), (.ref a2434), (.ref a2412), (.ref a2412)])) rfl rfl (hb hby own_h723) _ ?_
             exact hh)
            clear k202
            obtain ⟨cl2553, Ar2554, q2555, S2556, Ng2557, H2558, Gf2559⟩ := id V2552
            have hin2560 := inb_of (j := (6 : Int32)) S2556 (by decide)
            obtain ⟨T2561, h2562, X2563, e2564, W2565, st2566⟩ := stC X2546 hx hZ e2547 Ar2554 (j := (6 : Int32)) hin2560 (g := (mkF m 616 #[.val (.ref b), .val (.int nv)] [(.int b6), (.int (6 : Int32)), (.ref a2434), (.ref a2434), (.ref a2412), (.ref a2412)])) rfl rfl (hb hby own_h724)
            have N2567 := Fr.snoc X2563 N2550 G2437
            have K2568 : Keep h2426 h2562 [a2434] := K2551.wr W2565 own_m0
            have V2569 := Arv.set Ar2554 q2555 S2556 Ng2557 H2558 Gf2559 (v := (.int (nar .char b6))) (fits_nar_char _) W2565 6 rfl (own_lt rfl)
            have k204 : own_J p e below T2561 m 617 #[.val (.ref b), .val (.int nv)] [(.ref a2434), (.ref a2412), (.ref a2412)] B_ := fun t_ hh => k203 t_ (st2566 t_ hh)
            clear k203 st2566 X2546 e2547 cl2553 Ar2554 q2555 S2556 Ng2557 H2558 Gf2559 hin2560 W2565 K2551 V2552 N2550
            have k205 : own_J p e below T2561 m 624 #[.val (.ref b), .val (.int nv)] [(.int b7), (.int (7 : Int32)), (.ref a2434), (.ref a2434), (.ref a2412), (.ref a2412)] B_ := fun t_ hh => k204 t_ (by
             refine XS.dup X2563.here hx rfl (hb hby own_h725) rfl rfl ?_
             refine XS.bipush X2563.here hx rfl (hb hby own_h726) ?_
             refine XS.aloadN X2563.here hx rfl (hb hby own_h727) rfl rfl ?_
             refine XS.bipush X2563.here hx rfl (hb hby own_h728) ?_
             refine own_caload X2563 hx hZ e2564 (Arv.keep F2440 K2568 (ninS ne2467 nin0)) (j := (7 : Int32)) (v := (.int b7)) (by decide) rfl (g := (mkF m 623 #[.val (.ref b), .val (.int nv)] [(.int (7 : Int32)), (.ref b), (.int (7 : Int32)), (.ref a2434), (.ref a2434), (.ref a2412), (.ref a2412)])) rfl rfl (hb hby own_h729) _ ?_
             exact hh)
            clear k204
            obtain ⟨cl2570, Ar2571, q2572, S2573, Ng2574, H2575, Gf2576⟩ := id V2569
            have hin2577 := inb_of (j := (7 : Int32)) S2573 (by decide)
            obtain ⟨T2578, h2579, X2580, e2581, W2582, st2583⟩ := stC X2563 hx hZ e2564 Ar2571 (j := (7 : Int32)) hin2577 (g := (mkF m 624 #[.val (.ref b), .val (.int nv)] [(.int b7), (.int (7 : Int32)), (.ref a2434), (.ref a2434), (.ref a2412), (.ref a2412)])) rfl rfl (hb hby own_h730)
            have N2584 := Fr.snoc X2580 N2567 G2437
            have K2585 : Keep h2426 h2579 [a2434] := K2568.wr W2582 own_m0
            have V2586 := Arv.set Ar2571 q2572 S2573 Ng2574 H2575 Gf2576 (v := (.int (nar .char b7))) (fits_nar_char _) W2582 7 rfl (own_lt rfl)
            have k206 : own_J p e below T2578 m 625 #[.val (.ref b), .val (.int nv)] [(.ref a2434), (.ref a2412), (.ref a2412)] B_ := fun t_ hh => k205 t_ (st2583 t_ hh)
            clear k205 st2583 X2563 e2564 cl2570 Ar2571 q2572 S2573 Ng2574 H2575 Gf2576 hin2577 W2582 K2568 V2569 N2567
            have k207 : own_J p e below T2578 m 632 #[.val (.ref b), .val (.int nv)] [(.int b8), (.int (8 : Int32)), (.ref a2434), (.ref a2434), (.ref a2412), (.ref a2412)] B_ := fun t_ hh => k206 t_ (by
             refine XS.dup X2580.here hx rfl (hb hby own_h731) rfl rfl ?_
             refine XS.bipush X2580.here hx rfl (hb hby own_h732) ?_
             refine XS.aloadN X2580.here hx rfl (hb hby own_h733) rfl rfl ?_
             refine XS.bipush X2580.here hx rfl (hb hby own_h734) ?_
             refine own_caload X2580 hx hZ e2581 (Arv.keep F2440 K2585 (ninS ne2467 nin0)) (j := (8 : Int32)) (v := (.int b8)) (by decide) rfl (g := (mkF m 631 #[.val (.ref b), .val (.int nv)] [(.int (8 : Int32)), (.ref b), (.int (8 : Int32)), (.ref a2434), (.ref a2434), (.ref a2412), (.ref a2412)])) rfl rfl (hb hby own_h735) _ ?_
             exact hh)
            clear k206
            obtain ⟨cl2587, Ar2588, q2589, S2590, Ng2591, H2592, Gf2593⟩ := id V2586
            have hin2594 := inb_of (j := (8 : Int32)) S2590 (by decide)
            obtain ⟨T2595, h2596, X2597, e2598, W2599, st2600⟩ := stC X2580 hx hZ e2581 Ar2588 (j := (8 : Int32)) hin2594 (g := (mkF m 632 #[.val (.ref b), .val (.int nv)] [(.int b8), (.int (8 : Int32)), (.ref a2434), (.ref a2434), (.ref a2412), (.ref a2412)])) rfl rfl (hb hby own_h736)
            have N2601 := Fr.snoc X2597 N2584 G2437
            have K2602 : Keep h2426 h2596 [a2434] := K2585.wr W2599 own_m0
            have V2603 := Arv.set Ar2588 q2589 S2590 Ng2591 H2592 Gf2593 (v := (.int (nar .char b8))) (fits_nar_char _) W2599 8 rfl (own_lt rfl)
            have k208 : own_J p e below T2595 m 633 #[.val (.ref b), .val (.int nv)] [(.ref a2434), (.ref a2412), (.ref a2412)] B_ := fun t_ hh => k207 t_ (st2600 t_ hh)
            clear k207 st2600 X2580 e2581 cl2587 Ar2588 q2589 S2590 Ng2591 H2592 Gf2593 hin2594 W2599 K2585 V2586 N2584
            have k209 : own_J p e below T2595 m 640 #[.val (.ref b), .val (.int nv)] [(.int b9), (.int (9 : Int32)), (.ref a2434), (.ref a2434), (.ref a2412), (.ref a2412)] B_ := fun t_ hh => k208 t_ (by
             refine XS.dup X2597.here hx rfl (hb hby own_h737) rfl rfl ?_
             refine XS.bipush X2597.here hx rfl (hb hby own_h738) ?_
             refine XS.aloadN X2597.here hx rfl (hb hby own_h739) rfl rfl ?_
             refine XS.bipush X2597.here hx rfl (hb hby own_h740) ?_
             refine own_caload X2597 hx hZ e2598 (Arv.keep F2440 K2602 (ninS ne2467 nin0)) (j := (9 : Int32)) (v := (.int b9)) (by decide) rfl (g := (mkF m 639 #[.val (.ref b), .val (.int nv)] [(.int (9 : Int32)), (.ref b), (.int (9 : Int32)), (.ref a2434), (.ref a2434), (.ref a2412), (.ref a2412)])) rfl rfl (hb hby own_h741) _ ?_
             exact hh)
            clear k208
            obtain ⟨cl2604, Ar2605, q2606, S2607, Ng2608, H2609, Gf2610⟩ := id V2603
            have hin2611 := inb_of (j := (9 : Int32)) S2607 (by decide)
            obtain ⟨T2612, h2613, X2614, e2615, W2616, st2617⟩ := stC X2597 hx hZ e2598 Ar2605 (j := (9 : Int32)) hin2611 (g := (mkF m 640 #[.val (.ref b), .val (.int nv)] [(.int b9), (.int (9 : Int32)), (.ref a2434), (.ref a2434), (.ref a2412), (.ref a2412)])) rfl rfl (hb hby own_h742)
            have N2618 := Fr.snoc X2614 N2601 G2437
            have K2619 : Keep h2426 h2613 [a2434] := K2602.wr W2616 own_m0
            have V2620 := Arv.set Ar2605 q2606 S2607 Ng2608 H2609 Gf2610 (v := (.int (nar .char b9))) (fits_nar_char _) W2616 9 rfl (own_lt rfl)
            have k210 : own_J p e below T2612 m 641 #[.val (.ref b), .val (.int nv)] [(.ref a2434), (.ref a2412), (.ref a2412)] B_ := fun t_ hh => k209 t_ (st2617 t_ hh)
            clear k209 st2617 X2597 e2598 cl2604 Ar2605 q2606 S2607 Ng2608 H2609 Gf2610 hin2611 W2616 K2602 V2603 N2601
            have k211 : own_J p e below T2612 m 648 #[.val (.ref b), .val (.int nv)] [(.int b10), (.int (10 : Int32)), (.ref a2434), (.ref a2434), (.ref a2412), (.ref a2412)] B_ := fun t_ hh => k210 t_ (by
             refine XS.dup X2614.here hx rfl (hb hby own_h743) rfl rfl ?_
             refine XS.bipush X2614.here hx rfl (hb hby own_h744) ?_
             refine XS.aloadN X2614.here hx rfl (hb hby own_h745) rfl rfl ?_
             refine XS.bipush X2614.here hx rfl (hb hby own_h746) ?_
             refine own_caload X2614 hx hZ e2615 (Arv.keep F2440 K2619 (ninS ne2467 nin0)) (j := (10 : Int32)) (v := (.int b10)) (by decide) rfl (g := (mkF m 647 #[.val (.ref b), .val (.int nv)] [(.int (10 : Int32)), (.ref b), (.int (10 : Int32)), (.ref a2434), (.ref a2434), (.ref a2412), (.ref a2412)])) rfl rfl (hb hby own_h747) _ ?_
             exact hh)
            clear k210
            obtain ⟨cl2621, Ar2622, q2623, S2624, Ng2625, H2626, Gf2627⟩ := id V2620
            have hin2628 := inb_of (j := (10 : Int32)) S2624 (by decide)
            obtain ⟨T2629, h2630, X2631, e2632, W2633, st2634⟩ := stC X2614 hx hZ e2615 Ar2622 (j := (10 : Int32)) hin2628 (g := (mkF m 648 #[.val (.ref b), .val (.int nv)] [(.int b10), (.int (10 : Int32)), (.ref a2434), (.ref a2434), (.ref a2412), (.ref a2412)])) rfl rfl (hb hby own_h748)
            have N2635 := Fr.snoc X2631 N2618 G2437
            have K2636 : Keep h2426 h2630 [a2434] := K2619.wr W2633 own_m0
            have V2637 := Arv.set Ar2622 q2623 S2624 Ng2625 H2626 Gf2627 (v := (.int (nar .char b10))) (fits_nar_char _) W2633 10 rfl (own_lt rfl)
            have k212 : own_J p e below T2629 m 649 #[.val (.ref b), .val (.int nv)] [(.ref a2434), (.ref a2412), (.ref a2412)] B_ := fun t_ hh => k211 t_ (st2634 t_ hh)
            clear k211 st2634 X2614 e2615 cl2621 Ar2622 q2623 S2624 Ng2625 H2626 Gf2627 hin2628 W2633 K2619 V2620 N2618
            have V2638 : Arv Z h2630 a2434 kA2427 .char (11 : Int32) [(.int (nar .char b0)), (.int (nar .char b1)), (.int (nar .char b2)), (.int (nar .char b3)), (.int (nar .char b4)), (.int (nar .char b5)), (.int (nar .char b6)), (.int (nar .char b7)), (.int (nar .char b8)), (.int (nar .char b9)), (.int (nar .char b10))] (.int (0 : Int32)) := V2637
            have F2639 := F2440.keep K2636 (ninS ne2467 nin0)
            have F2640 := F2441.keep K2636
            have ne2642 : a2412 ≠ a2434 := by rw [g2435]; exact Nat.ne_of_lt A2408.lt
            have F2641 := F2442.keep K2636 (ninS ne2642 nin0)
            have F2643 := F2443.keep K2636 (ninS ne2642 nin0)
            have Z2644 : n0 ≤ h2630.size := Nat.le_trans Z2444 K2636.1
            have hk2645 := Nat.le_trans hk2438 K2636.1
            have Sf2646 := Safe.keep K2636 (allS Sf2439 all0) Cr2448.1 Sf2447
            have Sf2647 := Safe.keep K2636 (allS Sf2439 all0) Cr2448.1 Sf2439
            have Cr2648 := Cr2448.trans (CHr.keep K2636 (allS Sf2439 all0) Cr2448.1)
            have O2649 := O2445.keep K2636 (allS G2437 all0)
            have P2650 : Keep h0 h2630 [] := P2446.trans K2636 (allS (P := fun x => x ∈ [] ∨ h0.size ≤ x) (Or.inr H02436) all0)
            have F2651 : Arv Z h2630 a2434 kA2427 .char (Int32.ofNat 11) (([b0, b1, b2, b3, b4, b5, b6, b7, b8, b9, b10] : List Int32).map Value.int) (.int 0) := by have q := V2638; simp only [e0_, e1_, e2_, e3_, e4_, e5_, e6_, e7_, e8_, e9_, e10_] at q; exact q
            have hcs2652 : own_chs ([b0, b1, b2, b3, b4, b5, b6, b7, b8, b9, b10] : List Int32) := own_chs_drop (cs := [b0, b1, b2, b3, b4, b5, b6, b7, b8, b9, b10]) 0 hbc
            by_cases hA : ∀ c ∈ ([b0, b1, b2, b3, b4, b5, b6, b7, b8, b9, b10] : List Int32), ¬ (255 : Int32) < c
            ·
             obtain ⟨_, _, ⟨T2653, L2654, k_2655, n_2656⟩, -, X2657, ⟨Lc2658, hQ2659, l_2660, y_2661, z_2662⟩, st2663⟩ := X2631.specialBack hx (y := (⟨"java/lang/String", "<init>", "([C)V"⟩ : MethodName)) rfl hown (mvT hZ (wT hw 26 rfl)) (mvT hZ (wT hw 27 rfl)) (mvT hZ (wT hw 28 rfl)) (by decide) (StrChars.Road.backV (W := 1) hZ (fun d hd => hw d (own_sub_words d hd)) (kI := 4) (wT hw 24 rfl) (cs := ([b0, b1, b2, b3, b4, b5, b6, b7, b8, b9, b10] : List Int32)) (n0 := n0) G2415 Z2644 F2640 F2643 F2641 F2651 (Sta.ext O2649.2 sC) hc rfl rfl (own_lt rfl) (own_l rfl) (own_b8s hcs2652 hA) rfl (by decide) (by decide)) (g := (mkF m 649 #[.val (.ref b), .val (.int nv)] [(.ref a2434), (.ref a2412), (.ref a2412)])) rfl (by rw [hml]; rfl) (Steps.refl _) (a := a2412) (argsL := [(.ref a2434)]) (rest := [(.ref a2412)]) (lenOf own_h257 rfl) rfl (by show 2 * 0 + _ ≤ _; exact Nat.le_of_eq rfl) (hb hby own_h749) (fun _ _ => ⟨rfl, e2632, own_l rfl, own_l rfl⟩)
             dsimp only [Pt.U, Pt.locs, Pt.cells, Pt.slots] at X2657 l_2660 y_2661 z_2662 st2663 hQ2659
             replace l_2660 := l_2660.symm
             subst l_2660 y_2661 z_2662
             obtain ⟨rfl, N2664, K2665, E2666, F2667, t2668, kb2669, G2670, G2671, G2672, F2673, F2674⟩ := hQ2659
             have N2675 := Fr.app N2635 N2664
             have ne2677 : b ≠ a2412 := by rw [g2413]; exact Nat.ne_of_lt Fb.lt
             have F2676 := F2639.keep K2665 (ninS ne2677 nin0)
             have F2678 := F2640.keep K2665
             have F2679 := F2651.keep K2665 (ninS (Ne.symm ne2642) nin0)
             have Z2680 : n0 ≤ T2653.heap.size := Nat.le_trans Z2644 K2665.1
             have hk2681 := Nat.le_trans hk2645 K2665.1
             have Sf2682 := Safe.keep K2665 (allS Sf2646 all0) Cr2648.1 Sf2646
             have Sf2683 := Safe.keep K2665 (allS Sf2646 all0) Cr2648.1 Sf2647
             have Cr2684 := Cr2648.trans (CHr.keep K2665 (allS Sf2646 all0) Cr2648.1)
             have O2685 := O2649.keep K2665 (allS G2415 all0)
             have P2686 : Keep h0 T2653.heap [] := P2650.trans K2665 (allS (P := fun x => x ∈ [] ∨ h0.size ≤ x) (Or.inr H02414) all0)
             have S2687 : own_Str Z T2653.heap a2412 t2668 kb2669 ([b0, b1, b2, b3, b4, b5, b6, b7, b8, b9, b10] : List Int32) := ⟨E2666, F2673, F2667, F2674⟩
             have e2688 : T2653.heap = T2653.heap := rfl
             have k213 : own_J p e below T2653 m 652 #[.val (.ref b), .val (.int nv)] [(.ref a2412)] B_ := fun t_ hh => k212 t_ (st2663.trans hh)
             clear k212 st2663 X2631 e2632
             obtain ⟨fs, hr, hrun, hended, hEnd⟩ := X2657.leaveW hS0 (by rw [e2688]; exact hk2681) (v := some (.ref a2412)) (fun h => by rw [Bd.returns] at h; cases h)
             refine ⟨_, _, (own_from hB_ (k213 _ (retOut X2657 hx (t := .object "java/lang/String") Bd.returns rfl (Or.inr (Or.inr (Or.inr (Or.inr ⟨rfl, rfl, rfl⟩)))) (hb hby own_h750) hr))), hrun, hended, _, _, rfl, ?_, ?_, hEnd.1, hEnd.2.1, hEnd.2.2.1, hEnd.2.2.2.mono (own_l rfl) (own_l rfl)⟩
             rotate_left
             · show CHr Z own_EL s.vm s.heap T2653.vm T2653.heap
               rw [hh, e2688]
               exact Cr2684.trans (CHv.at X2657 hZ (own_EW hw) Cr2684.1)
             show Q_mk Z nv b0 b1 b2 b3 b4 b5 b6 b7 b8 b9 b10 h0 n0 _ T2653.heap _
             rw [e2688]
             exact ⟨a2412, rfl, N2675, P2686, G2415, E2666, by rw [(own_eq11 hn.1 hn.2 c1 c17 c40 c70 c107 c151 c203 c262 c328 c401 c481)]; exact (Or.inl ⟨t2668, kb2669, S2687, own_b8s hcs2652 hA⟩)⟩
            ·
             obtain ⟨k, hk, hkb, hlo⟩ := own_first _ hA
             obtain ⟨_, _, ⟨T2689, L2690, k_2691, n_2692⟩, -, X2693, ⟨Lc2694, hQ2695, l_2696, y_2697, z_2698⟩, st2699⟩ := X2631.specialBack hx (y := (⟨"java/lang/String", "<init>", "([C)V"⟩ : MethodName)) rfl hown (mvT hZ (wT hw 26 rfl)) (mvT hZ (wT hw 27 rfl)) (mvT hZ (wT hw 28 rfl)) (by decide) (backOf (W := 1) (rmI2 l Z a0 hw [] a2412 a2434 kA2427 ([b0, b1, b2, b3, b4, b5, b6, b7, b8, b9, b10] : List Int32) k h2630 n0 Z2644 F2640 F2643 F2641 G2415 F2651 (own_l rfl) hcs2652 hk hkb hlo O2649 (Ne.symm ne2642) sA sH sL ci sC hc) hZ (wT hw 28 rfl) (wT hw 25 rfl) (by decide) (by decide)) (g := (mkF m 649 #[.val (.ref b), .val (.int nv)] [(.ref a2434), (.ref a2412), (.ref a2412)])) rfl (by rw [hml]; rfl) (Steps.refl _) (a := a2412) (argsL := [(.ref a2434)]) (rest := [(.ref a2412)]) (lenOf own_h257 rfl) rfl (by show 2 * 0 + _ ≤ _; exact Nat.le_of_eq rfl) (hb hby own_h749) (fun _ _ => ⟨rfl, e2632, own_l rfl, own_l rfl⟩)
             dsimp only [Pt.U, Pt.locs, Pt.cells, Pt.slots] at X2693 l_2696 y_2697 z_2698 st2699 hQ2695
             replace l_2696 := l_2696.symm
             subst l_2696 y_2697 z_2698
             obtain ⟨t2701, kt2702, ds2703, rfl, N2700, K2711, F2704, F2705, F2706, F2707, F2708, F2709, F2710, -⟩ := hQ2695
             have N2712 := Fr.app N2635 N2700
             have H02713 : h0.size ≤ t2701 := Nat.le_trans P2650.1 F2710
             have ne2715 : b ≠ a2412 := by rw [g2413]; exact Nat.ne_of_lt Fb.lt
             have F2714 := F2639.keep K2711 (ninS ne2715 nin0)
             have F2716 := F2640.keep K2711
             have F2717 := F2651.keep K2711 (ninS (Ne.symm ne2642) nin0)
             have Z2718 : n0 ≤ T2689.heap.size := Nat.le_trans Z2644 K2711.1
             have hk2719 := Nat.le_trans hk2645 K2711.1
             have Sf2720 := Safe.keep K2711 (allS Sf2646 all0) Cr2648.1 Sf2646
             have Sf2721 := Safe.keep K2711 (allS Sf2646 all0) Cr2648.1 Sf2647
             have Cr2722 := Cr2648.trans (CHr.keep K2711 (allS Sf2646 all0) Cr2648.1)
             have O2723 := O2649.keep K2711 (allS G2415 all0)
             have P2724 : Keep h0 T2689.heap [] := P2650.trans K2711 (allS (P := fun x => x ∈ [] ∨ h0.size ≤ x) (Or.inr H02414) all0)
             have e2725 : T2689.heap = T2689.heap := rfl
             have k214 : own_J p e below T2689 m 652 #[.val (.ref b), .val (.int nv)] [(.ref a2412)] B_ := fun t_ hh => k212 t_ (st2699.trans hh)
             clear k212 st2699 X2631 e2632
             obtain ⟨fs, hr, hrun, hended, hEnd⟩ := X2693.leaveW hS0 (by rw [e2725]; exact hk2719) (v := some (.ref a2412)) (fun h => by rw [Bd.returns] at h; cases h)
             refine ⟨_, _, (own_from hB_ (k214 _ (retOut X2693 hx (t := .object "java/lang/String") Bd.returns rfl (Or.inr (Or.inr (Or.inr (Or.inr ⟨rfl, rfl, rfl⟩)))) (hb hby own_h750) hr))), hrun, hended, _, _, rfl, ?_, ?_, hEnd.1, hEnd.2.1, hEnd.2.2.1, hEnd.2.2.2.mono (own_l rfl) (own_l rfl)⟩
             rotate_left
             · show CHr Z own_EL s.vm s.heap T2689.vm T2689.heap
               rw [hh, e2725]
               exact Cr2722.trans (CHv.at X2693 hZ (own_EW hw) Cr2722.1)
             show Q_mk Z nv b0 b1 b2 b3 b4 b5 b6 b7 b8 b9 b10 h0 n0 _ T2689.heap _
             rw [e2725]
             exact ⟨a2412, rfl, N2712, P2724, G2415, F2704, by rw [(own_eq11 hn.1 hn.2 c1 c17 c40 c70 c107 c151 c203 c262 c328 c401 c481)]; exact (Or.inr ⟨t2701, kt2702, ds2703, F2704, F2705, F2706, F2707, F2708⟩)⟩
def Q_q (cs : List Int32) (h0 : Heap) (n0 : Nat) (v : Option Value) (h : Heap) (L : List Loc) : Prop := v = some (.int (own_qid cs)) ∧ Fr n0 L ∧ h = h0
theorem own_h751 : decode prog_6_method_4_code 0 = .ok (.aload_n 0, 1) := by decide +kernel
theorem own_h752 : decode prog_6_method_4_code 1 = .ok (.invokevirtual 71, 3) := by decide +kernel
theorem own_h753 : decode prog_6_method_4_code 4 = .ok (.istore_n 1, 1) := by decide +kernel
theorem own_h754 : decode prog_6_method_4_code 5 = .ok (.iload_n 1, 1) := by decide +kernel
theorem own_h755 : decode prog_6_method_4_code 6 = .ok (.ifCond .eq 24, 3) := by decide +kernel
theorem own_h756 : decode prog_6_method_4_code 9 = .ok (.iload_n 1, 1) := by decide +kernel
theorem own_h757 : decode prog_6_method_4_code 10 = .ok (.bipush 10, 2) := by decide +kernel
theorem own_h758 : decode prog_6_method_4_code 12 = .ok (.if_icmp .gt 18, 3) := by decide +kernel
theorem own_h759 : decode prog_6_method_4_code 15 = .ok (.aload_n 0, 1) := by decide +kernel
theorem own_h760 : decode prog_6_method_4_code 16 = .ok (.iconst 0, 1) := by decide +kernel
theorem own_h761 : decode prog_6_method_4_code 17 = .ok (.invokevirtual 75, 3) := by decide +kernel
theorem own_h762 : decode prog_6_method_4_code 20 = .ok (.bipush 48, 2) := by decide +kernel
theorem own_h763 : decode prog_6_method_4_code 22 = .ok (.if_icmp .ne 10, 3) := by decide +kernel
theorem own_h764 : decode prog_6_method_4_code 25 = .ok (.iload_n 1, 1) := by decide +kernel
theorem own_h765 : decode prog_6_method_4_code 26 = .ok (.iconst 1, 1) := by decide +kernel
theorem own_h766 : decode prog_6_method_4_code 27 = .ok (.if_icmp .le 5, 3) := by decide +kernel
theorem own_h767 : decode prog_6_method_4_code 30 = .ok (.iconst (-1), 1) := by decide +kernel
theorem own_h768 : decode prog_6_method_4_code 31 = .ok (.ireturn, 1) := by decide +kernel
theorem own_h769 : decode prog_6_method_4_code 32 = .ok (.lconst 0, 1) := by decide +kernel
theorem own_h770 : decode prog_6_method_4_code 33 = .ok (.lstore_n 2, 1) := by decide +kernel
theorem own_h771 : decode prog_6_method_4_code 34 = .ok (.iconst 0, 1) := by decide +kernel
theorem own_h772 : decode prog_6_method_4_code 35 = .ok (.istore 4, 2) := by decide +kernel
theorem own_h773 : decode prog_6_method_4_code 37 = .ok (.iload 4, 2) := by decide +kernel
theorem own_h774 : decode prog_6_method_4_code 39 = .ok (.iload_n 1, 1) := by decide +kernel
theorem own_h775 : decode prog_6_method_4_code 40 = .ok (.if_icmp .ge 47, 3) := by decide +kernel
theorem own_h776 : decode prog_6_method_4_code 43 = .ok (.aload_n 0, 1) := by decide +kernel
theorem own_h777 : decode prog_6_method_4_code 44 = .ok (.iload 4, 2) := by decide +kernel
theorem own_h778 : decode prog_6_method_4_code 46 = .ok (.invokevirtual 75, 3) := by decide +kernel
theorem own_h779 : decode prog_6_method_4_code 49 = .ok (.istore 5, 2) := by decide +kernel
theorem own_h780 : decode prog_6_method_4_code 51 = .ok (.iload 5, 2) := by decide +kernel
theorem own_h781 : decode prog_6_method_4_code 53 = .ok (.bipush 48, 2) := by decide +kernel
theorem own_h782 : decode prog_6_method_4_code 55 = .ok (.if_icmp .lt 10, 3) := by decide +kernel
theorem own_h783 : decode prog_6_method_4_code 58 = .ok (.iload 5, 2) := by decide +kernel
theorem own_h784 : decode prog_6_method_4_code 60 = .ok (.bipush 57, 2) := by decide +kernel
theorem own_h785 : decode prog_6_method_4_code 62 = .ok (.if_icmp .le 5, 3) := by decide +kernel
theorem own_h786 : decode prog_6_method_4_code 65 = .ok (.iconst (-1), 1) := by decide +kernel
theorem own_h787 : decode prog_6_method_4_code 66 = .ok (.ireturn, 1) := by decide +kernel
theorem own_h788 : decode prog_6_method_4_code 67 = .ok (.lload_n 2, 1) := by decide +kernel
theorem own_h789 : decode prog_6_method_4_code 68 = .ok (.ldc2_w 79, 3) := by decide +kernel
theorem own_h790 : decode prog_6_method_4_code 71 = .ok (.lmul, 1) := by decide +kernel
theorem own_h791 : decode prog_6_method_4_code 72 = .ok (.iload 5, 2) := by decide +kernel
theorem own_h792 : decode prog_6_method_4_code 74 = .ok (.i2l, 1) := by decide +kernel
theorem own_h793 : decode prog_6_method_4_code 75 = .ok (.ladd, 1) := by decide +kernel
theorem own_h794 : decode prog_6_method_4_code 76 = .ok (.ldc2_w 81, 3) := by decide +kernel
theorem own_h795 : decode prog_6_method_4_code 79 = .ok (.lsub, 1) := by decide +kernel
theorem own_h796 : decode prog_6_method_4_code 80 = .ok (.lstore_n 2, 1) := by decide +kernel
theorem own_h797 : decode prog_6_method_4_code 81 = .ok (.iinc 4 1, 3) := by decide +kernel
theorem own_h798 : decode prog_6_method_4_code 84 = .ok (.goto (-47), 3) := by decide +kernel
theorem own_h799 : decode prog_6_method_4_code 87 = .ok (.lload_n 2, 1) := by decide +kernel
theorem own_h800 : decode prog_6_method_4_code 88 = .ok (.ldc2_w 85, 3) := by decide +kernel
theorem own_h801 : decode prog_6_method_4_code 91 = .ok (.lcmp, 1) := by decide +kernel
theorem own_h802 : decode prog_6_method_4_code 92 = .ok (.ifCond .gt 8, 3) := by decide +kernel
theorem own_h803 : decode prog_6_method_4_code 95 = .ok (.lload_n 2, 1) := by decide +kernel
theorem own_h804 : decode prog_6_method_4_code 96 = .ok (.l2i, 1) := by decide +kernel
theorem own_h805 : decode prog_6_method_4_code 97 = .ok (.goto 4, 3) := by decide +kernel
theorem own_h806 : decode prog_6_method_4_code 100 = .ok (.iconst (-1), 1) := by decide +kernel
theorem own_h807 : decode prog_6_method_4_code 101 = .ok (.ireturn, 1) := by decide +kernel
theorem own_h808 : parseMethodDescriptor "(I)C" = some ⟨[.int], some .char⟩ := by decide +kernel
set_option maxRecDepth 65536 in
set_option maxHeartbeats 40000000 in
theorem own_qL_t {p : Program} {l : Launch} {e : Env} {s : State} {m : MethodId} {args : Array Value} {below : List Frame} {meth : Method} {c : Code} (Z : State) (a0 : Array Value) (hw : ∀ d ∈ tables_1, d.before a0 Z = true) (hx : p.tables.exec = Jvm.exec) (hby : c.code = prog_6_method_4_code) (hml : c.maxLocals = 6) (hZ : Z.Warmed39 s.vm) (hown : s.vm.findClass "com/example/commitlog/commitlog/ConsumeQueues" = some m.cls) (a : Addr) (cs : List Int32) (h0 : Heap) (n0 : Nat) (Z0 : n0 ≤ h0.size) (O0 : Old Z n0 h0) (h10 : cs.length ≤ 10) (hch : own_chs cs) (t : Addr) (kb : ClassId) (S : own_Str Z h0 a t kb cs) (hbs8 : ∀ c ∈ cs, own_b8 c) (ci : Int32) (sC : Sta Z Z.heap "java/lang/String" "COMPACT_STRINGS" "Z" (.int ci)) (hc : ¬ ci = 0) (gv : Value) (sG : Sta Z Z.heap "jdk/internal/util/Preconditions" "SIOOBE_FORMATTER" "Ljava/util/function/BiFunction;" gv) (hg : gv.isRef = true) (sA : Sta Z Z.heap "java/lang/StringUTF16" "$assertionsDisabled" "Z" (.int (1 : Int32))) (sH : Sta Z Z.heap "java/lang/StringUTF16" "HI_BYTE_SHIFT" "I" (.int (0 : Int32))) (sL : Sta Z Z.heap "java/lang/StringUTF16" "LO_BYTE_SHIFT" "I" (.int (8 : Int32))) (B : State) (i : Nat) (hi : i < cs.length) (hdg : ∀ j, j < i → own_dig (cs.getD j 0)) (hdi : own_dig (cs.getD i 0)) : ∀ (T : State) (locs : List Loc) (q : Int64) (sl : Slot), Stand p l e (rO 8 0 0 130) s m args below meth c T locs 0 0 → T.heap = h0 → Fr n0 locs → q.toInt = own_acc cs i → (sl = .unset ∨ ∃ x : Int32, sl = .val (.int x)) → own_J p e below T m 37 #[.val (.ref a), .val (.int (Int32.ofNat cs.length)), .val (.long q), .second, .val (.int (Int32.ofNat i)), sl] [] B → ∃ (T : State) (locs : List Loc) (q : Int64) (sl : Slot), Stand p l e (rO 8 0 0 130) s m args below meth c T locs 0 0 ∧ T.heap = h0 ∧ Fr n0 locs ∧ q.toInt = own_acc cs (i + 1) ∧ (sl = .unset ∨ ∃ x : Int32, sl = .val (.int x)) ∧ own_J p e below T m 37 #[.val (.ref a), .val (.int (Int32.ofNat cs.length)), .val (.long q), .second, .val (.int (Int32.ofNat (i + 1))), sl] [] B := by
 intro T locs q sl X eT NL hq hsl kK
 have h11 : cs.length ≤ 11 := by omega
 have k1 : own_J p e below T m 46 #[.val (.ref a), .val (.int (Int32.ofNat cs.length)), .val (.long q), .second, .val (.int (Int32.ofNat i)), sl] [(.int (Int32.ofNat i)), (.ref a)] B := fun t_ hh => kK t_ (by
  refine XS.iload X.here hx rfl (hb hby own_h773) rfl ?_
  refine XS.iloadN X.here hx rfl (hb hby own_h774) rfl ?_
  refine XS.icmpNo X.here hx rfl (hb hby own_h775) rfl (own_icF_ge ((own_lt32 (by omega) (by omega)).mpr (by omega))) ?_
  refine XS.aloadN X.here hx rfl (hb hby own_h776) rfl rfl ?_
  refine XS.iload X.here hx rfl (hb hby own_h777) rfl ?_
  exact hh)
 obtain ⟨cq2737, kq2738, qa2739, qb2740, qc2741⟩ := isOf hZ eT S.1
 obtain ⟨_, _, ⟨T2726, L2727, k_2728, n_2729⟩, -, X2730, ⟨Lc2731, hQ2732, l_2733, y_2734, z_2735⟩, st2736⟩ := X.virtualBack hx (y := (⟨"java/lang/String", "charAt", "(I)C"⟩ : MethodName)) (z := (⟨"java/lang/String", "charAt", "(I)C"⟩ : MethodName)) hown (mvT hZ (wT hw 66 rfl)) (mvT hZ (wT hw 67 rfl)) (notFace_of_selects (args := #[]) (mvT hZ (wT hw 69 rfl))) (mvT hZ (wT hw 69 rfl)) (mvT hZ (wT hw 68 rfl)) (by decide) (StrChars.Road.chN (W := 0) hZ (fun d hd => hw d (own_sub_wordsChN d hd)) (kI := 4) (wT hw 24 rfl) (i := i) S.1 S.2.1 S.2.2.1 S.2.2.2 (own_cod hbs8) (fun c hc => (hbs8 c hc).up) (Sta.ext O0.2 sC) hc (Sta.ext O0.2 sG) hg (by omega) hi rfl (by decide) (by decide)) qa2739 qc2741 (g := (mkF m 46 #[.val (.ref a), .val (.int (Int32.ofNat cs.length)), .val (.long q), .second, .val (.int (Int32.ofNat i)), sl] [(.int (Int32.ofNat i)), (.ref a)])) rfl (by rw [hml]; rfl) (Steps.refl _) (argsL := [(.int (Int32.ofNat i))]) (rest := []) (lenOf own_h808 rfl) rfl (by show 2 * 0 + _ ≤ _; exact Nat.le_of_eq rfl) (hb hby own_h778) (fun _ _ => ⟨rfl, eT, own_l rfl, own_l rfl⟩)
 dsimp only [Pt.U, Pt.locs, Pt.cells, Pt.slots] at X2730 l_2733 y_2734 z_2735 st2736 hQ2732
 replace l_2733 := l_2733.symm
 subst l_2733 y_2734 z_2735
 obtain ⟨rfl, rfl, e2742⟩ := hQ2732
 have N2743 := Fr.app NL (Fr.nil n0)
 have k2 : own_J p e below T2726 m 49 #[.val (.ref a), .val (.int (Int32.ofNat cs.length)), .val (.long q), .second, .val (.int (Int32.ofNat i)), sl] [(.int (cs.getD i 0))] B := fun t_ hh => k1 t_ (st2736.trans hh)
 clear k1 st2736
 have k3 : own_J p e below T2726 m 37 #[.val (.ref a), .val (.int (Int32.ofNat cs.length)), .val (.long (((q * (10 : Int64)) + ((cs.getD i 0).toInt64)) - (48 : Int64))), .second, .val (.int ((Int32.ofNat i) + (1 : Int32))), .val (.int (cs.getD i 0))] [] B := fun t_ hh => k2 t_ (by
  refine XS.istore X2730.here hx rfl (hb hby own_h779) rfl (l' := #[.val (.ref a), .val (.int (Int32.ofNat cs.length)), .val (.long q), .second, .val (.int (Int32.ofNat i)), .val (.int (cs.getD i 0))]) (by rcases hsl with rfl | ⟨x, rfl⟩ <;> rfl) ?_
  refine XS.iload X2730.here hx rfl (hb hby own_h780) rfl ?_
  refine XS.bipush X2730.here hx rfl (hb hby own_h781) ?_
  refine XS.icmpNo X2730.here hx rfl (hb hby own_h782) rfl (own_icF_lt (own_ge48 hdi)) ?_
  refine XS.iload X2730.here hx rfl (hb hby own_h783) rfl ?_
  refine XS.bipush X2730.here hx rfl (hb hby own_h784) ?_
  refine XS.icmpYes X2730.here hx rfl (pc0 := 62) (pc' := 67) rfl (hb hby own_h785) rfl (own_icT_le (own_le57 hdi)) (by decide) (by decide) ?_
  refine XS.lloadN X2730.here hx rfl (hb hby own_h788) rfl ?_
  refine X2730.ldc2Long hx hown (mvT hZ (wT hw 117 rfl)) (g := (mkF m 68 #[.val (.ref a), .val (.int (Int32.ofNat cs.length)), .val (.long q), .second, .val (.int (Int32.ofNat i)), .val (.int (cs.getD i 0))] [(.long q)])) rfl (hb hby own_h789) _ ?_
  refine XS.lmul X2730.here hx rfl (hb hby own_h790) rfl ?_
  refine XS.iload X2730.here hx rfl (hb hby own_h791) rfl ?_
  refine XS.i2l X2730.here hx rfl (hb hby own_h792) rfl ?_
  show Steps p.tables e below (T2726.setTop (mkF m 75 #[.val (.ref a), .val (.int (Int32.ofNat cs.length)), .val (.long q), .second, .val (.int (Int32.ofNat i)), .val (.int (cs.getD i 0))] [(.long ((cs.getD i 0).toInt64)), (.long (q * (10 : Int64)))])) _
  refine XS.ladd X2730.here hx rfl (hb hby own_h793) rfl ?_
  refine X2730.ldc2Long hx hown (mvT hZ (wT hw 118 rfl)) (g := (mkF m 76 #[.val (.ref a), .val (.int (Int32.ofNat cs.length)), .val (.long q), .second, .val (.int (Int32.ofNat i)), .val (.int (cs.getD i 0))] [(.long ((q * (10 : Int64)) + ((cs.getD i 0).toInt64)))])) rfl (hb hby own_h794) _ ?_
  refine XS.lsub X2730.here hx rfl (hb hby own_h795) rfl ?_
  refine XS.lstoreN X2730.here hx rfl (hb hby own_h796) rfl (l' := #[.val (.ref a), .val (.int (Int32.ofNat cs.length)), .val (.long (((q * (10 : Int64)) + ((cs.getD i 0).toInt64)) - (48 : Int64))), .second, .val (.int (Int32.ofNat i)), .val (.int (cs.getD i 0))]) rfl ?_
  refine XS.iinc X2730.here hx rfl (hb hby own_h797) rfl (l' := #[.val (.ref a), .val (.int (Int32.ofNat cs.length)), .val (.long (((q * (10 : Int64)) + ((cs.getD i 0).toInt64)) - (48 : Int64))), .second, .val (.int ((Int32.ofNat i) + (1 : Int32))), .val (.int (cs.getD i 0))]) rfl ?_
  refine XS.goto X2730.here hx rfl (pc0 := 84) (pc' := 37) rfl (hb hby own_h798) (by decide) (by decide) ?_
  exact hh)
 clear k2
 rw [own_step32 (by omega)] at k3
 exact ⟨_, _, _, _, X2730, e2742, N2743, own_turnQ hq (by omega) hdg hdi, Or.inr ⟨_, rfl⟩, k3⟩
theorem own_qL_l {p : Program} {l : Launch} {e : Env} {s : State} {m : MethodId} {args : Array Value} {below : List Frame} {meth : Method} {c : Code} (Z : State) (a0 : Array Value) (hw : ∀ d ∈ tables_1, d.before a0 Z = true) (hx : p.tables.exec = Jvm.exec) (hby : c.code = prog_6_method_4_code) (hml : c.maxLocals = 6) (hZ : Z.Warmed39 s.vm) (hown : s.vm.findClass "com/example/commitlog/commitlog/ConsumeQueues" = some m.cls) (a : Addr) (cs : List Int32) (h0 : Heap) (n0 : Nat) (Z0 : n0 ≤ h0.size) (O0 : Old Z n0 h0) (h10 : cs.length ≤ 10) (hch : own_chs cs) (t : Addr) (kb : ClassId) (S : own_Str Z h0 a t kb cs) (hbs8 : ∀ c ∈ cs, own_b8 c) (ci : Int32) (sC : Sta Z Z.heap "java/lang/String" "COMPACT_STRINGS" "Z" (.int ci)) (hc : ¬ ci = 0) (gv : Value) (sG : Sta Z Z.heap "jdk/internal/util/Preconditions" "SIOOBE_FORMATTER" "Ljava/util/function/BiFunction;" gv) (hg : gv.isRef = true) (sA : Sta Z Z.heap "java/lang/StringUTF16" "$assertionsDisabled" "Z" (.int (1 : Int32))) (sH : Sta Z Z.heap "java/lang/StringUTF16" "HI_BYTE_SHIFT" "I" (.int (0 : Int32))) (sL : Sta Z Z.heap "java/lang/StringUTF16" "LO_BYTE_SHIFT" "I" (.int (8 : Int32))) (B : State) (k : Nat) (hk : k ≤ cs.length) (hdg : ∀ j, j < k → own_dig (cs.getD j 0)) : ∀ j, j ≤ k → ∀ (T : State) (locs : List Loc) (q : Int64) (sl : Slot), Stand p l e (rO 8 0 0 130) s m args below meth c T locs 0 0 → T.heap = h0 → Fr n0 locs → q.toInt = own_acc cs (k - j) → (sl = .unset ∨ ∃ x : Int32, sl = .val (.int x)) → own_J p e below T m 37 #[.val (.ref a), .val (.int (Int32.ofNat cs.length)), .val (.long q), .second, .val (.int (Int32.ofNat (k - j))), sl] [] B → ∃ (T : State) (locs : List Loc) (q : Int64) (sl : Slot), Stand p l e (rO 8 0 0 130) s m args below meth c T locs 0 0 ∧ T.heap = h0 ∧ Fr n0 locs ∧ q.toInt = own_acc cs k ∧ (sl = .unset ∨ ∃ x : Int32, sl = .val (.int x)) ∧ own_J p e below T m 37 #[.val (.ref a), .val (.int (Int32.ofNat cs.length)), .val (.long q), .second, .val (.int (Int32.ofNat k)), sl] [] B := by
 intro j
 induction j with
 | zero => intro _ T locs q sl X eT NL hq hsl kK; exact ⟨T, locs, q, sl, X, eT, NL, hq, hsl, kK⟩
 | succ j ih =>
  intro hj T locs q sl X eT NL hq hsl kK
  obtain ⟨T1, locs1, q1, sl1, X1, e1, NL1, hq1, hsl1, k1⟩ := own_qL_t Z a0 hw hx hby hml hZ hown a cs h0 n0 Z0 O0 h10 hch t kb S hbs8 ci sC hc gv sG hg sA sH sL B (k - (j + 1)) (by omega) (fun j' hj' => hdg j' (by omega)) (hdg _ (by omega)) T locs q sl X eT NL hq hsl kK
  rw [show k - (j + 1) + 1 = k - j by omega] at hq1 k1
  exact ih (by omega) T1 locs1 q1 sl1 X1 e1 NL1 hq1 hsl1 k1
theorem own_h809 : plainName "com/example/commitlog/commitlog/ConsumeQueues" = true := by first | (simp [plainName, overriddenIn]; done) | decide +kernel
theorem own_h810 : parseMethodDescriptor "()I" = some ⟨[], some .int⟩ := by decide +kernel
theorem rmQL (l : Launch) (Z : State) (a0 : Array Value) (hw : ∀ d ∈ tables_1, d.before a0 Z = true) (ws : List Jvm.Cond) (a : Addr) (cs : List Int32) (h0 : Heap) (n0 : Nat) (Z0 : n0 ≤ h0.size) (O0 : Old Z n0 h0) (h11 : cs.length ≤ 11) (hch : own_chs cs) (t : Addr) (kb : ClassId) (S : own_Str Z h0 a t kb cs) (hbs8 : ∀ c ∈ cs, own_b8 c) (ci : Int32) (sC : Sta Z Z.heap "java/lang/String" "COMPACT_STRINGS" "Z" (.int ci)) (hc : ¬ ci = 0) (gv : Value) (sG : Sta Z Z.heap "jdk/internal/util/Preconditions" "SIOOBE_FORMATTER" "Ljava/util/function/BiFunction;" gv) (hg : gv.isRef = true) (sA : Sta Z Z.heap "java/lang/StringUTF16" "$assertionsDisabled" "Z" (.int (1 : Int32))) (sH : Sta Z Z.heap "java/lang/StringUTF16" "HI_BYTE_SHIFT" "I" (.int (0 : Int32))) (sL : Sta Z Z.heap "java/lang/StringUTF16" "LO_BYTE_SHIFT" "I" (.int (8 : Int32))) :
    own_Met l (⟨"com/example/commitlog/commitlog/ConsumeQueues", "queueIdOf", "(Ljava/lang/String;)I"⟩ : MethodName) prog_6_method_4_code 6 (some .int) ws (rO 8 0 0 130) #[(.ref a)] Z h0 (Q_q cs h0 n0) := by
 refine MetFree.of_bodySF (plainFor_of_name own_h809) hisR ?_
 intro p e s m args below meth c s₁ Bd hml0 hP hK
 obtain ⟨rfl, hZ, hh⟩ := hP
 have hx := Bd.exec
 have hby := Bd.bytes
 have hml : c.maxLocals = 6 := hml0
 have hown : s.vm.findClass "com/example/commitlog/commitlog/ConsumeQueues" = some m.cls := findClass_of_methodNamed Bd.named
 have hnm := (name_of_methodNamed Bd.named Bd.method).1
 have X0 : Stand p l e (rO 8 0 0 130) s m #[(.ref a)] below meth c s₁ [] 0 0 := Stand.of_body Bd
 have e0 : s₁.heap = h0 := by rw [← hh, Bd.state]; rfl
 have N0 := Fr.nil n0
 obtain ⟨B_, hB_⟩ : ∃ z, z = s₁.setTop (entryFrame m #[(.ref a)] 6) := ⟨_, rfl⟩
 have k0 : own_K p e below (s₁.setTop (mkF m 0 #[.val (.ref a), .unset, .unset, .unset, .unset, .unset] [])) B_ := by rw [hB_]; exact fun t k => castTop (by clear k; first | (simp [entryFrame, mkF, argsToLocals, Value.category, maxLocals]; done) | rfl) k
 have k1 : own_J p e below s₁ m 1 #[.val (.ref a), .unset, .unset, .unset, .unset, .unset] [(.ref a)] B_ := fun t_ hh => k0 t_ (by
  refine XS.aloadN X0.here hx rfl (hb hby own_h751) rfl rfl ?_
  exact hh)
 obtain ⟨cq32, kq33, qa34, qb35, qc36⟩ := isOf hZ e0 S.1
 obtain ⟨_, _, ⟨T21, L22, k_23, n_24⟩, -, X25, ⟨Lc26, hQ27, l_28, y_29, z_30⟩, st31⟩ := X0.virtualBack hx (y := (⟨"java/lang/String", "length", "()I"⟩ : MethodName)) (z := (⟨"java/lang/String", "length", "()I"⟩ : MethodName)) hown (mvT hZ (wT hw 56 rfl)) (mvT hZ (wT hw 57 rfl)) (notFace_of_selects (args := #[]) (mvT hZ (wT hw 59 rfl))) (mvT hZ (wT hw 59 rfl)) (mvT hZ (wT hw 58 rfl)) (by decide) (StrChars.Road.lenW (W := 0) hZ (fun d hd => hw d (own_sub_wordsLen d hd)) (kI := 4) (wT hw 24 rfl) S.1 S.2.1 S.2.2.1 S.2.2.2 (own_cod hbs8) (fun c hc => (hbs8 c hc).up) (Sta.ext O0.2 sC) hc (by omega) (by decide) (by decide)) qa34 qc36 (g := (mkF m 1 #[.val (.ref a), .unset, .unset, .unset, .unset, .unset] [(.ref a)])) rfl (by rw [hml]; rfl) (Steps.refl _) (argsL := []) (rest := []) (lenOf own_h810 rfl) rfl (by show 2 * 0 + _ ≤ _; exact Nat.le_of_eq rfl) (hb hby own_h752) (fun _ _ => ⟨rfl, e0, own_l rfl, own_l rfl⟩)
 dsimp only [Pt.U, Pt.locs, Pt.cells, Pt.slots] at X25 l_28 y_29 z_30 st31 hQ27
 replace l_28 := l_28.symm
 subst l_28 y_29 z_30
 obtain ⟨rfl, rfl, e37⟩ := hQ27
 have N38 := Fr.app N0 (Fr.nil n0)
 have k2 : own_J p e below T21 m 4 #[.val (.ref a), .unset, .unset, .unset, .unset, .unset] [(.int (Int32.ofNat cs.length))] B_ := fun t_ hh => k1 t_ (st31.trans hh)
 clear k1 st31
 have k3 : own_J p e below T21 m 6 #[.val (.ref a), .val (.int (Int32.ofNat cs.length)), .unset, .unset, .unset, .unset] [(.int (Int32.ofNat cs.length))] B_ := fun t_ hh => k2 t_ (by
  refine XS.istoreN X25.here hx rfl (hb hby own_h753) rfl (l' := #[.val (.ref a), .val (.int (Int32.ofNat cs.length)), .unset, .unset, .unset, .unset]) rfl ?_
  refine XS.iloadN X25.here hx rfl (hb hby own_h754) rfl ?_
  exact hh)
 clear k2
 by_cases c6 : (Int32.ofNat cs.length) = 0
 ·
  have k4 : own_J p e below T21 m 31 #[.val (.ref a), .val (.int (Int32.ofNat cs.length)), .unset, .unset, .unset, .unset] [(.int (-1 : Int32))] B_ := fun t_ hh => k3 t_ (by
   refine XS.ifYes X25.here hx rfl (pc0 := 6) (pc' := 30) rfl (hb hby own_h755) rfl (own_ifT_eq c6) (by decide) (by decide) ?_
   refine XS.iconst X25.here hx rfl (hb hby own_h767) ?_
   exact hh)
  clear k3
  obtain ⟨fs, hr, hrun, hended, hW, hsame⟩ := X25.leave (v := some (.int (-1 : Int32))) (fun h => by rw [Bd.returns] at h; cases h)
  refine ⟨_, _, (own_from hB_ (k4 _ (retOut X25 hx (t := .int) Bd.returns rfl (Or.inl ⟨rfl, (by simp), _, rfl⟩) (hb hby own_h768) hr))), hrun, hended, _, _, rfl, ?_, ⟨_, rfl⟩, hW, hsame.mono (own_l rfl) (own_l rfl)⟩
  show Q_q cs h0 n0 _ T21.heap _
  rw [e37]
  exact ⟨congrArg (fun z => some (Value.int z)) (own_qid_len (Or.inl (own_len0 h11 c6))).symm, N38, rfl⟩
 ·
  have k5 : own_J p e below T21 m 12 #[.val (.ref a), .val (.int (Int32.ofNat cs.length)), .unset, .unset, .unset, .unset] [(.int (10 : Int32)), (.int (Int32.ofNat cs.length))] B_ := fun t_ hh => k3 t_ (by
   refine XS.ifNo X25.here hx rfl (hb hby own_h755) rfl (own_ifF_eq c6) ?_
   refine XS.iloadN X25.here hx rfl (hb hby own_h756) rfl ?_
   refine XS.bipush X25.here hx rfl (hb hby own_h757) ?_
   exact hh)
  clear k3
  by_cases c12 : (10 : Int32) < (Int32.ofNat cs.length)
  ·
   have k6 : own_J p e below T21 m 31 #[.val (.ref a), .val (.int (Int32.ofNat cs.length)), .unset, .unset, .unset, .unset] [(.int (-1 : Int32))] B_ := fun t_ hh => k5 t_ (by
    refine XS.icmpYes X25.here hx rfl (pc0 := 12) (pc' := 30) rfl (hb hby own_h758) rfl (own_icT_gt c12) (by decide) (by decide) ?_
    refine XS.iconst X25.here hx rfl (hb hby own_h767) ?_
    exact hh)
   clear k5
   obtain ⟨fs, hr, hrun, hended, hW, hsame⟩ := X25.leave (v := some (.int (-1 : Int32))) (fun h => by rw [Bd.returns] at h; cases h)
   refine ⟨_, _, (own_from hB_ (k6 _ (retOut X25 hx (t := .int) Bd.returns rfl (Or.inl ⟨rfl, (by simp), _, rfl⟩) (hb hby own_h768) hr))), hrun, hended, _, _, rfl, ?_, ⟨_, rfl⟩, hW, hsame.mono (own_l rfl) (own_l rfl)⟩
   show Q_q cs h0 n0 _ T21.heap _
   rw [e37]
   exact ⟨congrArg (fun z => some (Value.int z)) (own_qid_len (Or.inr ((own_gtlit h11 (m := 10) rfl).mp c12))).symm, N38, rfl⟩
  ·
   have k7 : own_J p e below T21 m 17 #[.val (.ref a), .val (.int (Int32.ofNat cs.length)), .unset, .unset, .unset, .unset] [(.int (0 : Int32)), (.ref a)] B_ := fun t_ hh => k5 t_ (by
    refine XS.icmpNo X25.here hx rfl (hb hby own_h758) rfl (own_icF_gt c12) ?_
    refine XS.aloadN X25.here hx rfl (hb hby own_h759) rfl rfl ?_
    refine XS.iconst X25.here hx rfl (hb hby own_h760) ?_
    exact hh)
   clear k5
   obtain ⟨cq50, kq51, qa52, qb53, qc54⟩ := isOf hZ e37 S.1
   obtain ⟨_, _, ⟨T39, L40, k_41, n_42⟩, -, X43, ⟨Lc44, hQ45, l_46, y_47, z_48⟩, st49⟩ := X25.virtualBack hx (y := (⟨"java/lang/String", "charAt", "(I)C"⟩ : MethodName)) (z := (⟨"java/lang/String", "charAt", "(I)C"⟩ : MethodName)) hown (mvT hZ (wT hw 66 rfl)) (mvT hZ (wT hw 67 rfl)) (notFace_of_selects (args := #[]) (mvT hZ (wT hw 69 rfl))) (mvT hZ (wT hw 69 rfl)) (mvT hZ (wT hw 68 rfl)) (by decide) (StrChars.Road.chN (W := 0) hZ (fun d hd => hw d (own_sub_wordsChN d hd)) (kI := 4) (wT hw 24 rfl) (i := 0) S.1 S.2.1 S.2.2.1 S.2.2.2 (own_cod hbs8) (fun c hc => (hbs8 c hc).up) (Sta.ext O0.2 sC) hc (Sta.ext O0.2 sG) hg (by omega) (Nat.pos_of_ne_zero fun z => c6 (by rw [z]; rfl)) rfl (by decide) (by decide)) qa52 qc54 (g := (mkF m 17 #[.val (.ref a), .val (.int (Int32.ofNat cs.length)), .unset, .unset, .unset, .unset] [(.int (0 : Int32)), (.ref a)])) rfl (by rw [hml]; rfl) (Steps.refl _) (argsL := [(.int (0 : Int32))]) (rest := []) (lenOf own_h808 rfl) rfl (by show 2 * 0 + _ ≤ _; exact Nat.le_of_eq rfl) (hb hby own_h761) (fun _ _ => ⟨rfl, e37, own_l rfl, own_l rfl⟩)
   dsimp only [Pt.U, Pt.locs, Pt.cells, Pt.slots] at X43 l_46 y_47 z_48 st49 hQ45
   replace l_46 := l_46.symm
   subst l_46 y_47 z_48
   obtain ⟨rfl, rfl, e55⟩ := hQ45
   have N56 := Fr.app N38 (Fr.nil n0)
   have k8 : own_J p e below T39 m 20 #[.val (.ref a), .val (.int (Int32.ofNat cs.length)), .unset, .unset, .unset, .unset] [(.int (cs.getD 0 0))] B_ := fun t_ hh => k7 t_ (st49.trans hh)
   clear k7 st49 X25 e37
   have k9 : own_J p e below T39 m 22 #[.val (.ref a), .val (.int (Int32.ofNat cs.length)), .unset, .unset, .unset, .unset] [(.int (48 : Int32)), (.int (cs.getD 0 0))] B_ := fun t_ hh => k8 t_ (by
    refine XS.bipush X43.here hx rfl (hb hby own_h762) ?_
    exact hh)
   clear k8
   by_cases c22 : (cs.getD 0 0) = (48 : Int32)
   ·
    have k10 : own_J p e below T39 m 27 #[.val (.ref a), .val (.int (Int32.ofNat cs.length)), .unset, .unset, .unset, .unset] [(.int (1 : Int32)), (.int (Int32.ofNat cs.length))] B_ := fun t_ hh => k9 t_ (by
     refine XS.icmpNo X43.here hx rfl (hb hby own_h763) rfl (own_icF_ne c22) ?_
     refine XS.iloadN X43.here hx rfl (hb hby own_h764) rfl ?_
     refine XS.iconst X43.here hx rfl (hb hby own_h765) ?_
     exact hh)
    clear k9
    by_cases c27 : (1 : Int32) < (Int32.ofNat cs.length)
    ·
     have k11 : own_J p e below T39 m 31 #[.val (.ref a), .val (.int (Int32.ofNat cs.length)), .unset, .unset, .unset, .unset] [(.int (-1 : Int32))] B_ := fun t_ hh => k10 t_ (by
      refine XS.icmpNo X43.here hx rfl (hb hby own_h766) rfl (own_icF_le c27) ?_
      refine XS.iconst X43.here hx rfl (hb hby own_h767) ?_
      exact hh)
     clear k10
     obtain ⟨fs, hr, hrun, hended, hW, hsame⟩ := X43.leave (v := some (.int (-1 : Int32))) (fun h => by rw [Bd.returns] at h; cases h)
     refine ⟨_, _, (own_from hB_ (k11 _ (retOut X43 hx (t := .int) Bd.returns rfl (Or.inl ⟨rfl, (by simp), _, rfl⟩) (hb hby own_h768) hr))), hrun, hended, _, _, rfl, ?_, ⟨_, rfl⟩, hW, hsame.mono (own_l rfl) (own_l rfl)⟩
     show Q_q cs h0 n0 _ T39.heap _
     rw [e55]
     exact ⟨congrArg (fun z => some (Value.int z)) (own_qid_zero c22 ((own_gtlit h11 (m := 1) rfl).mp c27)).symm, N56, rfl⟩
    ·
     have k12 : own_J p e below T39 m 37 #[.val (.ref a), .val (.int (Int32.ofNat cs.length)), .val (.long (0 : Int64)), .second, .val (.int (0 : Int32)), .unset] [] B_ := fun t_ hh => k10 t_ (by
      refine XS.icmpYes X43.here hx rfl (pc0 := 27) (pc' := 32) rfl (hb hby own_h766) rfl (own_icT_le c27) (by decide) (by decide) ?_
      refine XS.lconst X43.here hx rfl (hb hby own_h769) ?_
      refine XS.lstoreN X43.here hx rfl (hb hby own_h770) rfl (l' := #[.val (.ref a), .val (.int (Int32.ofNat cs.length)), .val (.long (0 : Int64)), .second, .unset, .unset]) rfl ?_
      refine XS.iconst X43.here hx rfl (hb hby own_h771) ?_
      refine XS.istore X43.here hx rfl (hb hby own_h772) rfl (l' := #[.val (.ref a), .val (.int (Int32.ofNat cs.length)), .val (.long (0 : Int64)), .second, .val (.int (0 : Int32)), .unset]) rfl ?_
      exact hh)
     clear k10
     have h10 : cs.length ≤ 10 := Nat.not_lt.mp (fun z => c12 ((own_gtlit h11 (m := 10) rfl).mpr z))
     rcases own_firstN cs cs.length with hall | ⟨k, hk, hbad, hlo⟩
     ·
      have kk57 : own_J p e below T39 m 37 #[.val (.ref a), .val (.int (Int32.ofNat cs.length)), .val (.long (0 : Int64)), .second, .val (.int (Int32.ofNat (cs.length - cs.length))), .unset] [] B_ := by rw [Nat.sub_self]; exact k12
      obtain ⟨T58, L67, q59, sl60, X61, e62, N66, hq63, hsl64, kk65⟩ := own_qL_l Z a0 hw hx hby hml hZ hown a cs h0 n0 Z0 O0 h10 hch t kb S hbs8 ci sC hc gv sG hg sA sH sL _ cs.length (Nat.le_refl _) hall cs.length (Nat.le_refl _) _ _ _ _ X43 e55 N56 (by rw [Nat.sub_self]; rfl) (Or.inl rfl) kk57
      have k13 : own_J p e below T58 m 92 #[.val (.ref a), .val (.int (Int32.ofNat cs.length)), .val (.long q59), .second, .val (.int (Int32.ofNat cs.length)), sl60] [(.int (lcmpW q59 (2147483647 : Int64)))] B_ := fun t_ hh => kk65 t_ (by
       refine XS.iload X61.here hx rfl (hb hby own_h773) rfl ?_
       refine XS.iloadN X61.here hx rfl (hb hby own_h774) rfl ?_
       refine XS.icmpYes X61.here hx rfl (pc0 := 40) (pc' := 87) rfl (hb hby own_h775) rfl (own_icT_ge (fun q => absurd ((own_lt32 (by omega) (by omega)).mp q) (by omega))) (by decide) (by decide) ?_
       refine XS.lloadN X61.here hx rfl (hb hby own_h799) rfl ?_
       refine X61.ldc2Long hx hown (mvT hZ (wT hw 119 rfl)) (g := (mkF m 88 #[.val (.ref a), .val (.int (Int32.ofNat cs.length)), .val (.long q59), .second, .val (.int (Int32.ofNat cs.length)), sl60] [(.long q59)])) rfl (hb hby own_h800) _ ?_
       refine XS.lcmp X61.here hx rfl (hb hby own_h801) rfl ?_
       exact hh)
      clear kk65
      by_cases c92 : 0 < (lcmpW q59 (2147483647 : Int64))
      ·
       have k14 : own_J p e below T58 m 101 #[.val (.ref a), .val (.int (Int32.ofNat cs.length)), .val (.long q59), .second, .val (.int (Int32.ofNat cs.length)), sl60] [(.int (-1 : Int32))] B_ := fun t_ hh => k13 t_ (by
        refine XS.ifYes X61.here hx rfl (pc0 := 92) (pc' := 100) rfl (hb hby own_h802) rfl (own_ifT_gt c92) (by decide) (by decide) ?_
        refine XS.iconst X61.here hx rfl (hb hby own_h806) ?_
        exact hh)
       clear k13
       obtain ⟨fs, hr, hrun, hended, hW, hsame⟩ := X61.leave (v := some (.int (-1 : Int32))) (fun h => by rw [Bd.returns] at h; cases h)
       refine ⟨_, _, (own_from hB_ (k14 _ (retOut X61 hx (t := .int) Bd.returns rfl (Or.inl ⟨rfl, (by simp), _, rfl⟩) (hb hby own_h807) hr))), hrun, hended, _, _, rfl, ?_, ⟨_, rfl⟩, hW, hsame.mono (own_l rfl) (own_l rfl)⟩
       show Q_q cs h0 n0 _ T58.heap _
       rw [e62]
       exact ⟨congrArg (fun z => some (Value.int z)) ((own_fin (Nat.pos_of_ne_zero fun z => c6 (by rw [z]; rfl)) h10 (fun z => c27 ((own_gtlit h11 (m := 1) rfl).mpr z.2)) hall hq63).trans (if_pos c92)).symm, N66, rfl⟩
      ·
       have k15 : own_J p e below T58 m 101 #[.val (.ref a), .val (.int (Int32.ofNat cs.length)), .val (.long q59), .second, .val (.int (Int32.ofNat cs.length)), sl60] [(.int (q59.toInt32))] B_ := fun t_ hh => k13 t_ (by
        refine XS.ifNo X61.here hx rfl (hb hby own_h802) rfl (own_ifF_gt c92) ?_
        refine XS.lloadN X61.here hx rfl (hb hby own_h803) rfl ?_
        refine XS.l2i X61.here hx rfl (hb hby own_h804) rfl ?_
        refine XS.goto X61.here hx rfl (pc0 := 97) (pc' := 101) rfl (hb hby own_h805) (by decide) (by decide) ?_
        exact hh)
       clear k13
       obtain ⟨fs, hr, hrun, hended, hW, hsame⟩ := X61.leave (v := some (.int (q59.toInt32))) (fun h => by rw [Bd.returns] at h; cases h)
       refine ⟨_, _, (own_from hB_ (k15 _ (retOut X61 hx (t := .int) Bd.returns rfl (Or.inl ⟨rfl, (by simp), _, rfl⟩) (hb hby own_h807) hr))), hrun, hended, _, _, rfl, ?_, ⟨_, rfl⟩, hW, hsame.mono (own_l rfl) (own_l rfl)⟩
       show Q_q cs h0 n0 _ T58.heap _
       rw [e62]
       exact ⟨congrArg (fun z => some (Value.int z)) ((own_fin (Nat.pos_of_ne_zero fun z => c6 (by rw [z]; rfl)) h10 (fun z => c27 ((own_gtlit h11 (m := 1) rfl).mpr z.2)) hall hq63).trans (if_neg c92)).symm, N66, rfl⟩
     ·
      have kk68 : own_J p e below T39 m 37 #[.val (.ref a), .val (.int (Int32.ofNat cs.length)), .val (.long (0 : Int64)), .second, .val (.int (Int32.ofNat (k - k))), .unset] [] B_ := by rw [Nat.sub_self]; exact k12
      obtain ⟨T69, L78, q70, sl71, X72, e73, N77, hq74, hsl75, kk76⟩ := own_qL_l Z a0 hw hx hby hml hZ hown a cs h0 n0 Z0 O0 h10 hch t kb S hbs8 ci sC hc gv sG hg sA sH sL _ k (Nat.le_of_lt hk) hlo k (Nat.le_refl _) _ _ _ _ X43 e55 N56 (by rw [Nat.sub_self]; rfl) (Or.inl rfl) kk68
      have k16 : own_J p e below T69 m 46 #[.val (.ref a), .val (.int (Int32.ofNat cs.length)), .val (.long q70), .second, .val (.int (Int32.ofNat k)), sl71] [(.int (Int32.ofNat k)), (.ref a)] B_ := fun t_ hh => kk76 t_ (by
       refine XS.iload X72.here hx rfl (hb hby own_h773) rfl ?_
       refine XS.iloadN X72.here hx rfl (hb hby own_h774) rfl ?_
       refine XS.icmpNo X72.here hx rfl (hb hby own_h775) rfl (own_icF_ge ((own_lt32 (by omega) (by omega)).mpr hk)) ?_
       refine XS.aloadN X72.here hx rfl (hb hby own_h776) rfl rfl ?_
       refine XS.iload X72.here hx rfl (hb hby own_h777) rfl ?_
       exact hh)
      clear kk76
      obtain ⟨cq90, kq91, qa92, qb93, qc94⟩ := isOf hZ e73 S.1
      obtain ⟨_, _, ⟨T79, L80, k_81, n_82⟩, -, X83, ⟨Lc84, hQ85, l_86, y_87, z_88⟩, st89⟩ := X72.virtualBack hx (y := (⟨"java/lang/String", "charAt", "(I)C"⟩ : MethodName)) (z := (⟨"java/lang/String", "charAt", "(I)C"⟩ : MethodName)) hown (mvT hZ (wT hw 66 rfl)) (mvT hZ (wT hw 67 rfl)) (notFace_of_selects (args := #[]) (mvT hZ (wT hw 69 rfl))) (mvT hZ (wT hw 69 rfl)) (mvT hZ (wT hw 68 rfl)) (by decide) (StrChars.Road.chN (W := 0) hZ (fun d hd => hw d (own_sub_wordsChN d hd)) (kI := 4) (wT hw 24 rfl) (i := k) S.1 S.2.1 S.2.2.1 S.2.2.2 (own_cod hbs8) (fun c hc => (hbs8 c hc).up) (Sta.ext O0.2 sC) hc (Sta.ext O0.2 sG) hg (by omega) hk rfl (by decide) (by decide)) qa92 qc94 (g := (mkF m 46 #[.val (.ref a), .val (.int (Int32.ofNat cs.length)), .val (.long q70), .second, .val (.int (Int32.ofNat k)), sl71] [(.int (Int32.ofNat k)), (.ref a)])) rfl (by rw [hml]; rfl) (Steps.refl _) (argsL := [(.int (Int32.ofNat k))]) (rest := []) (lenOf own_h808 rfl) rfl (by show 2 * 0 + _ ≤ _; exact Nat.le_of_eq rfl) (hb hby own_h778) (fun _ _ => ⟨rfl, e73, own_l rfl, own_l rfl⟩)
      dsimp only [Pt.U, Pt.locs, Pt.cells, Pt.slots] at X83 l_86 y_87 z_88 st89 hQ85
      replace l_86 := l_86.symm
      subst l_86 y_87 z_88
      obtain ⟨rfl, rfl, e95⟩ := hQ85
      have N96 := Fr.app N77 (Fr.nil n0)
      have k17 : own_J p e below T79 m 49 #[.val (.ref a), .val (.int (Int32.ofNat cs.length)), .val (.long q70), .second, .val (.int (Int32.ofNat k)), sl71] [(.int (cs.getD k 0))] B_ := fun t_ hh => k16 t_ (st89.trans hh)
      clear k16 st89 X72 e73
      have k18 : own_J p e below T79 m 55 #[.val (.ref a), .val (.int (Int32.ofNat cs.length)), .val (.long q70), .second, .val (.int (Int32.ofNat k)), .val (.int (cs.getD k 0))] [(.int (48 : Int32)), (.int (cs.getD k 0))] B_ := fun t_ hh => k17 t_ (by
       refine XS.istore X83.here hx rfl (hb hby own_h779) rfl (l' := #[.val (.ref a), .val (.int (Int32.ofNat cs.length)), .val (.long q70), .second, .val (.int (Int32.ofNat k)), .val (.int (cs.getD k 0))]) (by rcases hsl75 with rfl | ⟨x, rfl⟩ <;> rfl) ?_
       refine XS.iload X83.here hx rfl (hb hby own_h780) rfl ?_
       refine XS.bipush X83.here hx rfl (hb hby own_h781) ?_
       exact hh)
      clear k17
      by_cases c55 : (cs.getD k 0) < (48 : Int32)
      ·
       have k19 : own_J p e below T79 m 66 #[.val (.ref a), .val (.int (Int32.ofNat cs.length)), .val (.long q70), .second, .val (.int (Int32.ofNat k)), .val (.int (cs.getD k 0))] [(.int (-1 : Int32))] B_ := fun t_ hh => k18 t_ (by
        refine XS.icmpYes X83.here hx rfl (pc0 := 55) (pc' := 65) rfl (hb hby own_h782) rfl (own_icT_lt c55) (by decide) (by decide) ?_
        refine XS.iconst X83.here hx rfl (hb hby own_h786) ?_
        exact hh)
       clear k18
       obtain ⟨fs, hr, hrun, hended, hW, hsame⟩ := X83.leave (v := some (.int (-1 : Int32))) (fun h => by rw [Bd.returns] at h; cases h)
       refine ⟨_, _, (own_from hB_ (k19 _ (retOut X83 hx (t := .int) Bd.returns rfl (Or.inl ⟨rfl, (by simp), _, rfl⟩) (hb hby own_h787) hr))), hrun, hended, _, _, rfl, ?_, ⟨_, rfl⟩, hW, hsame.mono (own_l rfl) (own_l rfl)⟩
       show Q_q cs h0 n0 _ T79.heap _
       rw [e95]
       exact ⟨congrArg (fun z => some (Value.int z)) (own_qid_bad hk hbad).symm, N96, rfl⟩
      ·
       have k20 : own_J p e below T79 m 66 #[.val (.ref a), .val (.int (Int32.ofNat cs.length)), .val (.long q70), .second, .val (.int (Int32.ofNat k)), .val (.int (cs.getD k 0))] [(.int (-1 : Int32))] B_ := fun t_ hh => k18 t_ (by
        refine XS.icmpNo X83.here hx rfl (hb hby own_h782) rfl (own_icF_lt c55) ?_
        refine XS.iload X83.here hx rfl (hb hby own_h783) rfl ?_
        refine XS.bipush X83.here hx rfl (hb hby own_h784) ?_
        refine XS.icmpNo X83.here hx rfl (hb hby own_h785) rfl (own_icF_le (own_gt57 hbad c55)) ?_
        refine XS.iconst X83.here hx rfl (hb hby own_h786) ?_
        exact hh)
       clear k18
       obtain ⟨fs, hr, hrun, hended, hW, hsame⟩ := X83.leave (v := some (.int (-1 : Int32))) (fun h => by rw [Bd.returns] at h; cases h)
       refine ⟨_, _, (own_from hB_ (k20 _ (retOut X83 hx (t := .int) Bd.returns rfl (Or.inl ⟨rfl, (by simp), _, rfl⟩) (hb hby own_h787) hr))), hrun, hended, _, _, rfl, ?_, ⟨_, rfl⟩, hW, hsame.mono (own_l rfl) (own_l rfl)⟩
       show Q_q cs h0 n0 _ T79.heap _
       rw [e95]
       exact ⟨congrArg (fun z => some (Value.int z)) (own_qid_bad hk hbad).symm, N96, rfl⟩
   ·
    have k21 : own_J p e below T39 m 37 #[.val (.ref a), .val (.int (Int32.ofNat cs.length)), .val (.long (0 : Int64)), .second, .val (.int (0 : Int32)), .unset] [] B_ := fun t_ hh => k9 t_ (by
     refine XS.icmpYes X43.here hx rfl (pc0 := 22) (pc' := 32) rfl (hb hby own_h763) rfl (own_icT_ne c22) (by decide) (by decide) ?_
     refine XS.lconst X43.here hx rfl (hb hby own_h769) ?_
     refine XS.lstoreN X43.here hx rfl (hb hby own_h770) rfl (l' := #[.val (.ref a), .val (.int (Int32.ofNat cs.length)), .val (.long (0 : Int64)), .second, .unset, .unset]) rfl ?_
     refine XS.iconst X43.here hx rfl (hb hby own_h771) ?_
     refine XS.istore X43.here hx rfl (hb hby own_h772) rfl (l' := #[.val (.ref a), .val (.int (Int32.ofNat cs.length)), .val (.long (0 : Int64)), .second, .val (.int (0 : Int32)), .unset]) rfl ?_
     exact hh)
    clear k9
    have h10 : cs.length ≤ 10 := Nat.not_lt.mp (fun z => c12 ((own_gtlit h11 (m := 10) rfl).mpr z))
    rcases own_firstN cs cs.length with hall | ⟨k, hk, hbad, hlo⟩
    ·
     have kk97 : own_J p e below T39 m 37 #[.val (.ref a), .val (.int (Int32.ofNat cs.length)), .val (.long (0 : Int64)), .second, .val (.int (Int32.ofNat (cs.length - cs.length))), .unset] [] B_ := by rw [Nat.sub_self]; exact k21
     obtain ⟨T98, L107, q99, sl100, X101, e102, N106, hq103, hsl104, kk105⟩ := own_qL_l Z a0 hw hx hby hml hZ hown a cs h0 n0 Z0 O0 h10 hch t kb S hbs8 ci sC hc gv sG hg sA sH sL _ cs.length (Nat.le_refl _) hall cs.length (Nat.le_refl _) _ _ _ _ X43 e55 N56 (by rw [Nat.sub_self]; rfl) (Or.inl rfl) kk97
     have k22 : own_J p e below T98 m 92 #[.val (.ref a), .val (.int (Int32.ofNat cs.length)), .val (.long q99), .second, .val (.int (Int32.ofNat cs.length)), sl100] [(.int (lcmpW q99 (2147483647 : Int64)))] B_ := fun t_ hh => kk105 t_ (by
      refine XS.iload X101.here hx rfl (hb hby own_h773) rfl ?_
      refine XS.iloadN X101.here hx rfl (hb hby own_h774) rfl ?_
      refine XS.icmpYes X101.here hx rfl (pc0 := 40) (pc' := 87) rfl (hb hby own_h775) rfl (own_icT_ge (fun q => absurd ((own_lt32 (by omega) (by omega)).mp q) (by omega))) (by decide) (by decide) ?_
      refine XS.lloadN X101.here hx rfl (hb hby own_h799) rfl ?_
      refine X101.ldc2Long hx hown (mvT hZ (wT hw 119 rfl)) (g := (mkF m 88 #[.val (.ref a), .val (.int (Int32.ofNat cs.length)), .val (.long q99), .second, .val (.int (Int32.ofNat cs.length)), sl100] [(.long q99)])) rfl (hb hby own_h800) _ ?_
      refine XS.lcmp X101.here hx rfl (hb hby own_h801) rfl ?_
      exact hh)
     clear kk105
     by_cases c92 : 0 < (lcmpW q99 (2147483647 : Int64))
     ·
      have k23 : own_J p e below T98 m 101 #[.val (.ref a), .val (.int (Int32.ofNat cs.length)), .val (.long q99), .second, .val (.int (Int32.ofNat cs.length)), sl100] [(.int (-1 : Int32))] B_ := fun t_ hh => k22 t_ (by
       refine XS.ifYes X101.here hx rfl (pc0 := 92) (pc' := 100) rfl (hb hby own_h802) rfl (own_ifT_gt c92) (by decide) (by decide) ?_
       refine XS.iconst X101.here hx rfl (hb hby own_h806) ?_
       exact hh)
      clear k22
      obtain ⟨fs, hr, hrun, hended, hW, hsame⟩ := X101.leave (v := some (.int (-1 : Int32))) (fun h => by rw [Bd.returns] at h; cases h)
      refine ⟨_, _, (own_from hB_ (k23 _ (retOut X101 hx (t := .int) Bd.returns rfl (Or.inl ⟨rfl, (by simp), _, rfl⟩) (hb hby own_h807) hr))), hrun, hended, _, _, rfl, ?_, ⟨_, rfl⟩, hW, hsame.mono (own_l rfl) (own_l rfl)⟩
      show Q_q cs h0 n0 _ T98.heap _
      rw [e102]
      exact ⟨congrArg (fun z => some (Value.int z)) ((own_fin (Nat.pos_of_ne_zero fun z => c6 (by rw [z]; rfl)) h10 (fun z => c22 z.1) hall hq103).trans (if_pos c92)).symm, N106, rfl⟩
     ·
      have k24 : own_J p e below T98 m 101 #[.val (.ref a), .val (.int (Int32.ofNat cs.length)), .val (.long q99), .second, .val (.int (Int32.ofNat cs.length)), sl100] [(.int (q99.toInt32))] B_ := fun t_ hh => k22 t_ (by
       refine XS.ifNo X101.here hx rfl (hb hby own_h802) rfl (own_ifF_gt c92) ?_
       refine XS.lloadN X101.here hx rfl (hb hby own_h803) rfl ?_
       refine XS.l2i X101.here hx rfl (hb hby own_h804) rfl ?_
       refine XS.goto X101.here hx rfl (pc0 := 97) (pc' := 101) rfl (hb hby own_h805) (by decide) (by decide) ?_
       exact hh)
      clear k22
      obtain ⟨fs, hr, hrun, hended, hW, hsame⟩ := X101.leave (v := some (.int (q99.toInt32))) (fun h => by rw [Bd.returns] at h; cases h)
      refine ⟨_, _, (own_from hB_ (k24 _ (retOut X101 hx (t := .int) Bd.returns rfl (Or.inl ⟨rfl, (by simp), _, rfl⟩) (hb hby own_h807) hr))), hrun, hended, _, _, rfl, ?_, ⟨_, rfl⟩, hW, hsame.mono (own_l rfl) (own_l rfl)⟩
      show Q_q cs h0 n0 _ T98.heap _
      rw [e102]
      exact ⟨congrArg (fun z => some (Value.int z)) ((own_fin (Nat.pos_of_ne_zero fun z => c6 (by rw [z]; rfl)) h10 (fun z => c22 z.1) hall hq103).trans (if_neg c92)).symm, N106, rfl⟩
    ·
     have kk108 : own_J p e below T39 m 37 #[.val (.ref a), .val (.int (Int32.ofNat cs.length)), .val (.long (0 : Int64)), .second, .val (.int (Int32.ofNat (k - k))), .unset] [] B_ := by rw [Nat.sub_self]; exact k21
     obtain ⟨T109, L118, q110, sl111, X112, e113, N117, hq114, hsl115, kk116⟩ := own_qL_l Z a0 hw hx hby hml hZ hown a cs h0 n0 Z0 O0 h10 hch t kb S hbs8 ci sC hc gv sG hg sA sH sL _ k (Nat.le_of_lt hk) hlo k (Nat.le_refl _) _ _ _ _ X43 e55 N56 (by rw [Nat.sub_self]; rfl) (Or.inl rfl) kk108
     have k25 : own_J p e below T109 m 46 #[.val (.ref a), .val (.int (Int32.ofNat cs.length)), .val (.long q110), .second, .val (.int (Int32.ofNat k)), sl111] [(.int (Int32.ofNat k)), (.ref a)] B_ := fun t_ hh => kk116 t_ (by
      refine XS.iload X112.here hx rfl (hb hby own_h773) rfl ?_
      refine XS.iloadN X112.here hx rfl (hb hby own_h774) rfl ?_
      refine XS.icmpNo X112.here hx rfl (hb hby own_h775) rfl (own_icF_ge ((own_lt32 (by omega) (by omega)).mpr hk)) ?_
      refine XS.aloadN X112.here hx rfl (hb hby own_h776) rfl rfl ?_
      refine XS.iload X112.here hx rfl (hb hby own_h777) rfl ?_
      exact hh)
     clear kk116
     obtain ⟨cq130, kq131, qa132, qb133, qc134⟩ := isOf hZ e113 S.1
     obtain ⟨_, _, ⟨T119, L120, k_121, n_122⟩, -, X123, ⟨Lc124, hQ125, l_126, y_127, z_128⟩, st129⟩ := X112.virtualBack hx (y := (⟨"java/lang/String", "charAt", "(I)C"⟩ : MethodName)) (z := (⟨"java/lang/String", "charAt", "(I)C"⟩ : MethodName)) hown (mvT hZ (wT hw 66 rfl)) (mvT hZ (wT hw 67 rfl)) (notFace_of_selects (args := #[]) (mvT hZ (wT hw 69 rfl))) (mvT hZ (wT hw 69 rfl)) (mvT hZ (wT hw 68 rfl)) (by decide) (StrChars.Road.chN (W := 0) hZ (fun d hd => hw d (own_sub_wordsChN d hd)) (kI := 4) (wT hw 24 rfl) (i := k) S.1 S.2.1 S.2.2.1 S.2.2.2 (own_cod hbs8) (fun c hc => (hbs8 c hc).up) (Sta.ext O0.2 sC) hc (Sta.ext O0.2 sG) hg (by omega) hk rfl (by decide) (by decide)) qa132 qc134 (g := (mkF m 46 #[.val (.ref a), .val (.int (Int32.ofNat cs.length)), .val (.long q110), .second, .val (.int (Int32.ofNat k)), sl111] [(.int (Int32.ofNat k)), (.ref a)])) rfl (by rw [hml]; rfl) (Steps.refl _) (argsL := [(.int (Int32.ofNat k))]) (rest := []) (lenOf own_h808 rfl) rfl (by show 2 * 0 + _ ≤ _; exact Nat.le_of_eq rfl) (hb hby own_h778) (fun _ _ => ⟨rfl, e113, own_l rfl, own_l rfl⟩)
     dsimp only [Pt.U, Pt.locs, Pt.cells, Pt.slots] at X123 l_126 y_127 z_128 st129 hQ125
     replace l_126 := l_126.symm
     subst l_126 y_127 z_128
     obtain ⟨rfl, rfl, e135⟩ := hQ125
     have N136 := Fr.app N117 (Fr.nil n0)
     have k26 : own_J p e below T119 m 49 #[.val (.ref a), .val (.int (Int32.ofNat cs.length)), .val (.long q110), .second, .val (.int (Int32.ofNat k)), sl111] [(.int (cs.getD k 0))] B_ := fun t_ hh => k25 t_ (st129.trans hh)
     clear k25 st129 X112 e113
     have k27 : own_J p e below T119 m 55 #[.val (.ref a), .val (.int (Int32.ofNat cs.length)), .val (.long q110), .second, .val (.int (Int32.ofNat k)), .val (.int (cs.getD k 0))] [(.int (48 : Int32)), (.int (cs.getD k 0))] B_ := fun t_ hh => k26 t_ (by
      refine XS.istore X123.here hx rfl (hb hby own_h779) rfl (l' := #[.val (.ref a), .val (.int (Int32.ofNat cs.length)), .val (.long q110), .second, .val (.int (Int32.ofNat k)), .val (.int (cs.getD k 0))]) (by rcases hsl115 with rfl | ⟨x, rfl⟩ <;> rfl) ?_
      refine XS.iload X123.here hx rfl (hb hby own_h780) rfl ?_
      refine XS.bipush X123.here hx rfl (hb hby own_h781) ?_
      exact hh)
     clear k26
     by_cases c55 : (cs.getD k 0) < (48 : Int32)
     ·
      have k28 : own_J p e below T119 m 66 #[.val (.ref a), .val (.int (Int32.ofNat cs.length)), .val (.long q110), .second, .val (.int (Int32.ofNat k)), .val (.int (cs.getD k 0))] [(.int (-1 : Int32))] B_ := fun t_ hh => k27 t_ (by
       refine XS.icmpYes X123.here hx rfl (pc0 := 55) (pc' := 65) rfl (hb hby own_h782) rfl (own_icT_lt c55) (by decide) (by decide) ?_
       refine XS.iconst X123.here hx rfl (hb hby own_h786) ?_
       exact hh)
      clear k27
      obtain ⟨fs, hr, hrun, hended, hW, hsame⟩ := X123.leave (v := some (.int (-1 : Int32))) (fun h => by rw [Bd.returns] at h; cases h)
      refine ⟨_, _, (own_from hB_ (k28 _ (retOut X123 hx (t := .int) Bd.returns rfl (Or.inl ⟨rfl, (by simp), _, rfl⟩) (hb hby own_h787) hr))), hrun, hended, _, _, rfl, ?_, ⟨_, rfl⟩, hW, hsame.mono (own_l rfl) (own_l rfl)⟩
      show Q_q cs h0 n0 _ T119.heap _
      rw [e135]
      exact ⟨congrArg (fun z => some (Value.int z)) (own_qid_bad hk hbad).symm, N136, rfl⟩
     ·
      have k29 : own_J p e below T119 m 66 #[.val (.ref a), .val (.int (Int32.ofNat cs.length)), .val (.long q110), .second, .val (.int (Int32.ofNat k)), .val (.int (cs.getD k 0))] [(.int (-1 : Int32))] B_ := fun t_ hh => k27 t_ (by
       refine XS.icmpNo X123.here hx rfl (hb hby own_h782) rfl (own_icF_lt c55) ?_
       refine XS.iload X123.here hx rfl (hb hby own_h783) rfl ?_
       refine XS.bipush X123.here hx rfl (hb hby own_h784) ?_
       refine XS.icmpNo X123.here hx rfl (hb hby own_h785) rfl (own_icF_le (own_gt57 hbad c55)) ?_
       refine XS.iconst X123.here hx rfl (hb hby own_h786) ?_
       exact hh)
      clear k27
      obtain ⟨fs, hr, hrun, hended, hW, hsame⟩ := X123.leave (v := some (.int (-1 : Int32))) (fun h => by rw [Bd.returns] at h; cases h)
      refine ⟨_, _, (own_from hB_ (k29 _ (retOut X123 hx (t := .int) Bd.returns rfl (Or.inl ⟨rfl, (by simp), _, rfl⟩) (hb hby own_h787) hr))), hrun, hended, _, _, rfl, ?_, ⟨_, rfl⟩, hW, hsame.mono (own_l rfl) (own_l rfl)⟩
      show Q_q cs h0 n0 _ T119.heap _
      rw [e135]
      exact ⟨congrArg (fun z => some (Value.int z)) (own_qid_bad hk hbad).symm, N136, rfl⟩
set_option maxRecDepth 65536 in
set_option maxHeartbeats 40000000 in
theorem own_qU_t {p : Program} {l : Launch} {e : Env} {s : State} {m : MethodId} {args : Array Value} {below : List Frame} {meth : Method} {c : Code} (Z : State) (a0 : Array Value) (hw : ∀ d ∈ tables_1, d.before a0 Z = true) (hx : p.tables.exec = Jvm.exec) (hby : c.code = prog_6_method_4_code) (hml : c.maxLocals = 6) (hZ : Z.Warmed39 s.vm) (hown : s.vm.findClass "com/example/commitlog/commitlog/ConsumeQueues" = some m.cls) (a : Addr) (cs : List Int32) (h0 : Heap) (n0 : Nat) (Z0 : n0 ≤ h0.size) (O0 : Old Z n0 h0) (h10 : cs.length ≤ 10) (hch : own_chs cs) (t : Addr) (kt : ClassId) (ds : List Value) (S : own_U16 Z h0 a t kt cs ds) (ci : Int32) (sC : Sta Z Z.heap "java/lang/String" "COMPACT_STRINGS" "Z" (.int ci)) (hc : ¬ ci = 0) (gv : Value) (sG : Sta Z Z.heap "jdk/internal/util/Preconditions" "SIOOBE_FORMATTER" "Ljava/util/function/BiFunction;" gv) (hg : gv.isRef = true) (sA : Sta Z Z.heap "java/lang/StringUTF16" "$assertionsDisabled" "Z" (.int (1 : Int32))) (sH : Sta Z Z.heap "java/lang/StringUTF16" "HI_BYTE_SHIFT" "I" (.int (0 : Int32))) (sL : Sta Z Z.heap "java/lang/StringUTF16" "LO_BYTE_SHIFT" "I" (.int (8 : Int32))) (B : State) (i : Nat) (hi : i < cs.length) (hdg : ∀ j, j < i → own_dig (cs.getD j 0)) (hdi : own_dig (cs.getD i 0)) : ∀ (T : State) (locs : List Loc) (q : Int64) (sl : Slot), Stand p l e (rO 8 0 0 130) s m args below meth c T locs 0 0 → T.heap = h0 → Fr n0 locs → q.toInt = own_acc cs i → (sl = .unset ∨ ∃ x : Int32, sl = .val (.int x)) → own_J p e below T m 37 #[.val (.ref a), .val (.int (Int32.ofNat cs.length)), .val (.long q), .second, .val (.int (Int32.ofNat i)), sl] [] B → ∃ (T : State) (locs : List Loc) (q : Int64) (sl : Slot), Stand p l e (rO 8 0 0 130) s m args below meth c T locs 0 0 ∧ T.heap = h0 ∧ Fr n0 locs ∧ q.toInt = own_acc cs (i + 1) ∧ (sl = .unset ∨ ∃ x : Int32, sl = .val (.int x)) ∧ own_J p e below T m 37 #[.val (.ref a), .val (.int (Int32.ofNat cs.length)), .val (.long q), .second, .val (.int (Int32.ofNat (i + 1))), sl] [] B := by
 intro T locs q sl X eT NL hq hsl kK
 have h11 : cs.length ≤ 11 := by omega
 have k1 : own_J p e below T m 46 #[.val (.ref a), .val (.int (Int32.ofNat cs.length)), .val (.long q), .second, .val (.int (Int32.ofNat i)), sl] [(.int (Int32.ofNat i)), (.ref a)] B := fun t_ hh => kK t_ (by
  refine XS.iload X.here hx rfl (hb hby own_h773) rfl ?_
  refine XS.iloadN X.here hx rfl (hb hby own_h774) rfl ?_
  refine XS.icmpNo X.here hx rfl (hb hby own_h775) rfl (own_icF_ge ((own_lt32 (by omega) (by omega)).mpr (by omega))) ?_
  refine XS.aloadN X.here hx rfl (hb hby own_h776) rfl rfl ?_
  refine XS.iload X.here hx rfl (hb hby own_h777) rfl ?_
  exact hh)
 obtain ⟨cq148, kq149, qa150, qb151, qc152⟩ := isOf hZ eT S.1
 obtain ⟨_, _, ⟨T137, L138, k_139, n_140⟩, -, X141, ⟨Lc142, hQ143, l_144, y_145, z_146⟩, st147⟩ := X.virtualBack hx (y := (⟨"java/lang/String", "charAt", "(I)C"⟩ : MethodName)) (z := (⟨"java/lang/String", "charAt", "(I)C"⟩ : MethodName)) hown (mvT hZ (wT hw 66 rfl)) (mvT hZ (wT hw 67 rfl)) (notFace_of_selects (args := #[]) (mvT hZ (wT hw 69 rfl))) (mvT hZ (wT hw 69 rfl)) (mvT hZ (wT hw 68 rfl)) (by decide) (backOf (W := 0) (rmChA l Z a0 hw [] a i (cs.getD i 0) t kt cs.length ds h0 n0 Z0 S.1 S.2.1 S.2.2.1 S.2.2.2.1 h11 hi O0 (S.2.2.2.2.2 i hi).1 (S.2.2.2.2.2 i hi).2 (own_chD hch hi).1 (own_chD hch hi).2 sA sH sL gv sG hg ci sC hc) hZ (wT hw 70 rfl) (wT hw 25 rfl) (by decide) (by decide)) qa150 qc152 (g := (mkF m 46 #[.val (.ref a), .val (.int (Int32.ofNat cs.length)), .val (.long q), .second, .val (.int (Int32.ofNat i)), sl] [(.int (Int32.ofNat i)), (.ref a)])) rfl (by rw [hml]; rfl) (Steps.refl _) (argsL := [(.int (Int32.ofNat i))]) (rest := []) (lenOf own_h808 rfl) rfl (by show 2 * 0 + _ ≤ _; exact Nat.le_of_eq rfl) (hb hby own_h778) (fun _ _ => ⟨rfl, eT, own_l rfl, own_l rfl⟩)
 dsimp only [Pt.U, Pt.locs, Pt.cells, Pt.slots] at X141 l_144 y_145 z_146 st147 hQ143
 replace l_144 := l_144.symm
 subst l_144 y_145 z_146
 obtain ⟨rfl, N153, e154⟩ := hQ143
 have N155 := Fr.app NL N153
 have k2 : own_J p e below T137 m 49 #[.val (.ref a), .val (.int (Int32.ofNat cs.length)), .val (.long q), .second, .val (.int (Int32.ofNat i)), sl] [(.int (cs.getD i 0))] B := fun t_ hh => k1 t_ (st147.trans hh)
 clear k1 st147
 have k3 : own_J p e below T137 m 37 #[.val (.ref a), .val (.int (Int32.ofNat cs.length)), .val (.long (((q * (10 : Int64)) + ((cs.getD i 0).toInt64)) - (48 : Int64))), .second, .val (.int ((Int32.ofNat i) + (1 : Int32))), .val (.int (cs.getD i 0))] [] B := fun t_ hh => k2 t_ (by
  refine XS.istore X141.here hx rfl (hb hby own_h779) rfl (l' := #[.val (.ref a), .val (.int (Int32.ofNat cs.length)), .val (.long q), .second, .val (.int (Int32.ofNat i)), .val (.int (cs.getD i 0))]) (by rcases hsl with rfl | ⟨x, rfl⟩ <;> rfl) ?_
  refine XS.iload X141.here hx rfl (hb hby own_h780) rfl ?_
  refine XS.bipush X141.here hx rfl (hb hby own_h781) ?_
  refine XS.icmpNo X141.here hx rfl (hb hby own_h782) rfl (own_icF_lt (own_ge48 hdi)) ?_
  refine XS.iload X141.here hx rfl (hb hby own_h783) rfl ?_
  refine XS.bipush X141.here hx rfl (hb hby own_h784) ?_
  refine XS.icmpYes X141.here hx rfl (pc0 := 62) (pc' := 67) rfl (hb hby own_h785) rfl (own_icT_le (own_le57 hdi)) (by decide) (by decide) ?_
  refine XS.lloadN X141.here hx rfl (hb hby own_h788) rfl ?_
  refine X141.ldc2Long hx hown (mvT hZ (wT hw 117 rfl)) (g := (mkF m 68 #[.val (.ref a), .val (.int (Int32.ofNat cs.length)), .val (.long q), .second, .val (.int (Int32.ofNat i)), .val (.int (cs.getD i 0))] [(.long q)])) rfl (hb hby own_h789) _ ?_
  refine XS.lmul X141.here hx rfl (hb hby own_h790) rfl ?_
  refine XS.iload X141.here hx rfl (hb hby own_h791) rfl ?_
  refine XS.i2l X141.here hx rfl (hb hby own_h792) rfl ?_
  show Steps p.tables e below (T137.setTop (mkF m 75 #[.val (.ref a), .val (.int (Int32.ofNat cs.length)), .val (.long q), .second, .val (.int (Int32.ofNat i)), .val (.int (cs.getD i 0))] [(.long ((cs.getD i 0).toInt64)), (.long (q * (10 : Int64)))])) _
  refine XS.ladd X141.here hx rfl (hb hby own_h793) rfl ?_
  refine X141.ldc2Long hx hown (mvT hZ (wT hw 118 rfl)) (g := (mkF m 76 #[.val (.ref a), .val (.int (Int32.ofNat cs.length)), .val (.long q), .second, .val (.int (Int32.ofNat i)), .val (.int (cs.getD i 0))] [(.long ((q * (10 : Int64)) + ((cs.getD i 0).toInt64)))])) rfl (hb hby own_h794) _ ?_
  refine XS.lsub X141.here hx rfl (hb hby own_h795) rfl ?_
  refine XS.lstoreN X141.here hx rfl (hb hby own_h796) rfl (l' := #[.val (.ref a), .val (.int (Int32.ofNat cs.length)), .val (.long (((q * (10 : Int64)) + ((cs.getD i 0).toInt64)) - (48 : Int64))), .second, .val (.int (Int32.ofNat i)), .val (.int (cs.getD i 0))]) rfl ?_
  refine XS.iinc X141.here hx rfl (hb hby own_h797) rfl (l' := #[.val (.ref a), .val (.int (Int32.ofNat cs.length)), .val (.long (((q * (10 : Int64)) + ((cs.getD i 0).toInt64)) - (48 : Int64))), .second, .val (.int ((Int32.ofNat i) + (1 : Int32))), .val (.int (cs.getD i 0))]) rfl ?_
  refine XS.goto X141.here hx rfl (pc0 := 84) (pc' := 37) rfl (hb hby own_h798) (by decide) (by decide) ?_
  exact hh)
 clear k2
 rw [own_step32 (by omega)] at k3
 exact ⟨_, _, _, _, X141, e154, N155, own_turnQ hq (by omega) hdg hdi, Or.inr ⟨_, rfl⟩, k3⟩
theorem own_qU_l {p : Program} {l : Launch} {e : Env} {s : State} {m : MethodId} {args : Array Value} {below : List Frame} {meth : Method} {c : Code} (Z : State) (a0 : Array Value) (hw : ∀ d ∈ tables_1, d.before a0 Z = true) (hx : p.tables.exec = Jvm.exec) (hby : c.code = prog_6_method_4_code) (hml : c.maxLocals = 6) (hZ : Z.Warmed39 s.vm) (hown : s.vm.findClass "com/example/commitlog/commitlog/ConsumeQueues" = some m.cls) (a : Addr) (cs : List Int32) (h0 : Heap) (n0 : Nat) (Z0 : n0 ≤ h0.size) (O0 : Old Z n0 h0) (h10 : cs.length ≤ 10) (hch : own_chs cs) (t : Addr) (kt : ClassId) (ds : List Value) (S : own_U16 Z h0 a t kt cs ds) (ci : Int32) (sC : Sta Z Z.heap "java/lang/String" "COMPACT_STRINGS" "Z" (.int ci)) (hc : ¬ ci = 0) (gv : Value) (sG : Sta Z Z.heap "jdk/internal/util/Preconditions" "SIOOBE_FORMATTER" "Ljava/util/function/BiFunction;" gv) (hg : gv.isRef = true) (sA : Sta Z Z.heap "java/lang/StringUTF16" "$assertionsDisabled" "Z" (.int (1 : Int32))) (sH : Sta Z Z.heap "java/lang/StringUTF16" "HI_BYTE_SHIFT" "I" (.int (0 : Int32))) (sL : Sta Z Z.heap "java/lang/StringUTF16" "LO_BYTE_SHIFT" "I" (.int (8 : Int32))) (B : State) (k : Nat) (hk : k ≤ cs.length) (hdg : ∀ j, j < k → own_dig (cs.getD j 0)) : ∀ j, j ≤ k → ∀ (T : State) (locs : List Loc) (q : Int64) (sl : Slot), Stand p l e (rO 8 0 0 130) s m args below meth c T locs 0 0 → T.heap = h0 → Fr n0 locs → q.toInt = own_acc cs (k - j) → (sl = .unset ∨ ∃ x : Int32, sl = .val (.int x)) → own_J p e below T m 37 #[.val (.ref a), .val (.int (Int32.ofNat cs.length)), .val (.long q), .second, .val (.int (Int32.ofNat (k - j))), sl] [] B → ∃ (T : State) (locs : List Loc) (q : Int64) (sl : Slot), Stand p l e (rO 8 0 0 130) s m args below meth c T locs 0 0 ∧ T.heap = h0 ∧ Fr n0 locs ∧ q.toInt = own_acc cs k ∧ (sl = .unset ∨ ∃ x : Int32, sl = .val (.int x)) ∧ own_J p e below T m 37 #[.val (.ref a), .val (.int (Int32.ofNat cs.length)), .val (.long q), .second, .val (.int (Int32.ofNat k)), sl] [] B := by
 intro j
 induction j with
 | zero => intro _ T locs q sl X eT NL hq hsl kK; exact ⟨T, locs, q, sl, X, eT, NL, hq, hsl, kK⟩
 | succ j ih =>
  intro hj T locs q sl X eT NL hq hsl kK
  obtain ⟨T1, locs1, q1, sl1, X1, e1, NL1, hq1, hsl1, k1⟩ := own_qU_t Z a0 hw hx hby hml hZ hown a cs h0 n0 Z0 O0 h10 hch t kt ds S ci sC hc gv sG hg sA sH sL B (k - (j + 1)) (by omega) (fun j' hj' => hdg j' (by omega)) (hdg _ (by omega)) T locs q sl X eT NL hq hsl kK
  rw [show k - (j + 1) + 1 = k - j by omega] at hq1 k1
  exact ih (by omega) T1 locs1 q1 sl1 X1 e1 NL1 hq1 hsl1 k1
theorem rmQU (l : Launch) (Z : State) (a0 : Array Value) (hw : ∀ d ∈ tables_1, d.before a0 Z = true) (ws : List Jvm.Cond) (a : Addr) (cs : List Int32) (h0 : Heap) (n0 : Nat) (Z0 : n0 ≤ h0.size) (O0 : Old Z n0 h0) (h11 : cs.length ≤ 11) (hch : own_chs cs) (t : Addr) (kt : ClassId) (ds : List Value) (S : own_U16 Z h0 a t kt cs ds) (ci : Int32) (sC : Sta Z Z.heap "java/lang/String" "COMPACT_STRINGS" "Z" (.int ci)) (hc : ¬ ci = 0) (gv : Value) (sG : Sta Z Z.heap "jdk/internal/util/Preconditions" "SIOOBE_FORMATTER" "Ljava/util/function/BiFunction;" gv) (hg : gv.isRef = true) (sA : Sta Z Z.heap "java/lang/StringUTF16" "$assertionsDisabled" "Z" (.int (1 : Int32))) (sH : Sta Z Z.heap "java/lang/StringUTF16" "HI_BYTE_SHIFT" "I" (.int (0 : Int32))) (sL : Sta Z Z.heap "java/lang/StringUTF16" "LO_BYTE_SHIFT" "I" (.int (8 : Int32))) :
    own_Met l (⟨"com/example/commitlog/commitlog/ConsumeQueues", "queueIdOf", "(Ljava/lang/String;)I"⟩ : MethodName) prog_6_method_4_code 6 (some .int) ws (rO 8 0 0 130) #[(.ref a)] Z h0 (Q_q cs h0 n0) := by
 refine MetFree.of_bodySF (plainFor_of_name own_h809) hisR ?_
 intro p e s m args below meth c s₁ Bd hml0 hP hK
 obtain ⟨rfl, hZ, hh⟩ := hP
 have hx := Bd.exec
 have hby := Bd.bytes
 have hml : c.maxLocals = 6 := hml0
 have hown : s.vm.findClass "com/example/commitlog/commitlog/ConsumeQueues" = some m.cls := findClass_of_methodNamed Bd.named
 have hnm := (name_of_methodNamed Bd.named Bd.method).1
 have X0 : Stand p l e (rO 8 0 0 130) s m #[(.ref a)] below meth c s₁ [] 0 0 := Stand.of_body Bd
 have e0 : s₁.heap = h0 := by rw [← hh, Bd.state]; rfl
 have N0 := Fr.nil n0
 obtain ⟨B_, hB_⟩ : ∃ z, z = s₁.setTop (entryFrame m #[(.ref a)] 6) := ⟨_, rfl⟩
 have k0 : own_K p e below (s₁.setTop (mkF m 0 #[.val (.ref a), .unset, .unset, .unset, .unset, .unset] [])) B_ := by rw [hB_]; exact fun t k => castTop (by clear k; first | (simp [entryFrame, mkF, argsToLocals, Value.category, maxLocals]; done) | rfl) k
 have k1 : own_J p e below s₁ m 1 #[.val (.ref a), .unset, .unset, .unset, .unset, .unset] [(.ref a)] B_ := fun t_ hh => k0 t_ (by
  refine XS.aloadN X0.here hx rfl (hb hby own_h751) rfl rfl ?_
  exact hh)
 obtain ⟨cq32, kq33, qa34, qb35, qc36⟩ := isOf hZ e0 S.1
 obtain ⟨_, _, ⟨T21, L22, k_23, n_24⟩, -, X25, ⟨Lc26, hQ27, l_28, y_29, z_30⟩, st31⟩ := X0.virtualBack hx (y := (⟨"java/lang/String", "length", "()I"⟩ : MethodName)) (z := (⟨"java/lang/String", "length", "()I"⟩ : MethodName)) hown (mvT hZ (wT hw 56 rfl)) (mvT hZ (wT hw 57 rfl)) (notFace_of_selects (args := #[]) (mvT hZ (wT hw 59 rfl))) (mvT hZ (wT hw 59 rfl)) (mvT hZ (wT hw 58 rfl)) (by decide) (backOf (W := 0) (rmLeU l Z a0 hw [] a t kt cs.length ds h0 n0 Z0 S.1 S.2.1 S.2.2.1 S.2.2.2.1 h11 O0 ci sC hc) hZ (wT hw 60 rfl) (wT hw 25 rfl) (by decide) (by decide)) qa34 qc36 (g := (mkF m 1 #[.val (.ref a), .unset, .unset, .unset, .unset, .unset] [(.ref a)])) rfl (by rw [hml]; rfl) (Steps.refl _) (argsL := []) (rest := []) (lenOf own_h810 rfl) rfl (by show 2 * 0 + _ ≤ _; exact Nat.le_of_eq rfl) (hb hby own_h752) (fun _ _ => ⟨rfl, e0, own_l rfl, own_l rfl⟩)
 dsimp only [Pt.U, Pt.locs, Pt.cells, Pt.slots] at X25 l_28 y_29 z_30 st31 hQ27
 replace l_28 := l_28.symm
 subst l_28 y_29 z_30
 obtain ⟨rfl, N37, e38⟩ := hQ27
 have N39 := Fr.app N0 N37
 have k2 : own_J p e below T21 m 4 #[.val (.ref a), .unset, .unset, .unset, .unset, .unset] [(.int (Int32.ofNat cs.length))] B_ := fun t_ hh => k1 t_ (st31.trans hh)
 clear k1 st31
 have k3 : own_J p e below T21 m 6 #[.val (.ref a), .val (.int (Int32.ofNat cs.length)), .unset, .unset, .unset, .unset] [(.int (Int32.ofNat cs.length))] B_ := fun t_ hh => k2 t_ (by
  refine XS.istoreN X25.here hx rfl (hb hby own_h753) rfl (l' := #[.val (.ref a), .val (.int (Int32.ofNat cs.length)), .unset, .unset, .unset, .unset]) rfl ?_
  refine XS.iloadN X25.here hx rfl (hb hby own_h754) rfl ?_
  exact hh)
 clear k2
 by_cases c6 : (Int32.ofNat cs.length) = 0
 ·
  have k4 : own_J p e below T21 m 31 #[.val (.ref a), .val (.int (Int32.ofNat cs.length)), .unset, .unset, .unset, .unset] [(.int (-1 : Int32))] B_ := fun t_ hh => k3 t_ (by
   refine XS.ifYes X25.here hx rfl (pc0 := 6) (pc' := 30) rfl (hb hby own_h755) rfl (own_ifT_eq c6) (by decide) (by decide) ?_
   refine XS.iconst X25.here hx rfl (hb hby own_h767) ?_
   exact hh)
  clear k3
  obtain ⟨fs, hr, hrun, hended, hW, hsame⟩ := X25.leave (v := some (.int (-1 : Int32))) (fun h => by rw [Bd.returns] at h; cases h)
  refine ⟨_, _, (own_from hB_ (k4 _ (retOut X25 hx (t := .int) Bd.returns rfl (Or.inl ⟨rfl, (by simp), _, rfl⟩) (hb hby own_h768) hr))), hrun, hended, _, _, rfl, ?_, ⟨_, rfl⟩, hW, hsame.mono (own_l rfl) (own_l rfl)⟩
  show Q_q cs h0 n0 _ T21.heap _
  rw [e38]
  exact ⟨congrArg (fun z => some (Value.int z)) (own_qid_len (Or.inl (own_len0 h11 c6))).symm, N39, rfl⟩
 ·
  have k5 : own_J p e below T21 m 12 #[.val (.ref a), .val (.int (Int32.ofNat cs.length)), .unset, .unset, .unset, .unset] [(.int (10 : Int32)), (.int (Int32.ofNat cs.length))] B_ := fun t_ hh => k3 t_ (by
   refine XS.ifNo X25.here hx rfl (hb hby own_h755) rfl (own_ifF_eq c6) ?_
   refine XS.iloadN X25.here hx rfl (hb hby own_h756) rfl ?_
   refine XS.bipush X25.here hx rfl (hb hby own_h757) ?_
   exact hh)
  clear k3
  by_cases c12 : (10 : Int32) < (Int32.ofNat cs.length)
  ·
   have k6 : own_J p e below T21 m 31 #[.val (.ref a), .val (.int (Int32.ofNat cs.length)), .unset, .unset, .unset, .unset] [(.int (-1 : Int32))] B_ := fun t_ hh => k5 t_ (by
    refine XS.icmpYes X25.here hx rfl (pc0 := 12) (pc' := 30) rfl (hb hby own_h758) rfl (own_icT_gt c12) (by decide) (by decide) ?_
    refine XS.iconst X25.here hx rfl (hb hby own_h767) ?_
    exact hh)
   clear k5
   obtain ⟨fs, hr, hrun, hended, hW, hsame⟩ := X25.leave (v := some (.int (-1 : Int32))) (fun h => by rw [Bd.returns] at h; cases h)
   refine ⟨_, _, (own_from hB_ (k6 _ (retOut X25 hx (t := .int) Bd.returns rfl (Or.inl ⟨rfl, (by simp), _, rfl⟩) (hb hby own_h768) hr))), hrun, hended, _, _, rfl, ?_, ⟨_, rfl⟩, hW, hsame.mono (own_l rfl) (own_l rfl)⟩
   show Q_q cs h0 n0 _ T21.heap _
   rw [e38]
   exact ⟨congrArg (fun z => some (Value.int z)) (own_qid_len (Or.inr ((own_gtlit h11 (m := 10) rfl).mp c12))).symm, N39, rfl⟩
  ·
   have k7 : own_J p e below T21 m 17 #[.val (.ref a), .val (.int (Int32.ofNat cs.length)), .unset, .unset, .unset, .unset] [(.int (0 : Int32)), (.ref a)] B_ := fun t_ hh => k5 t_ (by
    refine XS.icmpNo X25.here hx rfl (hb hby own_h758) rfl (own_icF_gt c12) ?_
    refine XS.aloadN X25.here hx rfl (hb hby own_h759) rfl rfl ?_
    refine XS.iconst X25.here hx rfl (hb hby own_h760) ?_
    exact hh)
   clear k5
   obtain ⟨cq51, kq52, qa53, qb54, qc55⟩ := isOf hZ e38 S.1
   obtain ⟨_, _, ⟨T40, L41, k_42, n_43⟩, -, X44, ⟨Lc45, hQ46, l_47, y_48, z_49⟩, st50⟩ := X25.virtualBack hx (y := (⟨"java/lang/String", "charAt", "(I)C"⟩ : MethodName)) (z := (⟨"java/lang/String", "charAt", "(I)C"⟩ : MethodName)) hown (mvT hZ (wT hw 66 rfl)) (mvT hZ (wT hw 67 rfl)) (notFace_of_selects (args := #[]) (mvT hZ (wT hw 69 rfl))) (mvT hZ (wT hw 69 rfl)) (mvT hZ (wT hw 68 rfl)) (by decide) (backOf (W := 0) (rmChA l Z a0 hw [] a 0 (cs.getD 0 0) t kt cs.length ds h0 n0 Z0 S.1 S.2.1 S.2.2.1 S.2.2.2.1 h11 (Nat.pos_of_ne_zero fun z => c6 (by rw [z]; rfl)) O0 (S.2.2.2.2.2 0 (Nat.pos_of_ne_zero fun z => c6 (by rw [z]; rfl))).1 (S.2.2.2.2.2 0 (Nat.pos_of_ne_zero fun z => c6 (by rw [z]; rfl))).2 (own_chD hch (Nat.pos_of_ne_zero fun z => c6 (by rw [z]; rfl))).1 (own_chD hch (Nat.pos_of_ne_zero fun z => c6 (by rw [z]; rfl))).2 sA sH sL gv sG hg ci sC hc) hZ (wT hw 70 rfl) (wT hw 25 rfl) (by decide) (by decide)) qa53 qc55 (g := (mkF m 17 #[.val (.ref a), .val (.int (Int32.ofNat cs.length)), .unset, .unset, .unset, .unset] [(.int (0 : Int32)), (.ref a)])) rfl (by rw [hml]; rfl) (Steps.refl _) (argsL := [(.int (0 : Int32))]) (rest := []) (lenOf own_h808 rfl) rfl (by show 2 * 0 + _ ≤ _; exact Nat.le_of_eq rfl) (hb hby own_h761) (fun _ _ => ⟨rfl, e38, own_l rfl, own_l rfl⟩)
   dsimp only [Pt.U, Pt.locs, Pt.cells, Pt.slots] at X44 l_47 y_48 z_49 st50 hQ46
   replace l_47 := l_47.symm
   subst l_47 y_48 z_49
   obtain ⟨rfl, N56, e57⟩ := hQ46
   have N58 := Fr.app N39 N56
   have k8 : own_J p e below T40 m 20 #[.val (.ref a), .val (.int (Int32.ofNat cs.length)), .unset, .unset, .unset, .unset] [(.int (cs.getD 0 0))] B_ := fun t_ hh => k7 t_ (st50.trans hh)
   clear k7 st50 X25 e38
   have k9 : own_J p e below T40 m 22 #[.val (.ref a), .val (.int (Int32.ofNat cs.length)), .unset, .unset, .unset, .unset] [(.int (48 : Int32)), (.int (cs.getD 0 0))] B_ := fun t_ hh => k8 t_ (by
    refine XS.bipush X44.here hx rfl (hb hby own_h762) ?_
    exact hh)
   clear k8
   by_cases c22 : (cs.getD 0 0) = (48 : Int32)
   ·
    have k10 : own_J p e below T40 m 27 #[.val (.ref a), .val (.int (Int32.ofNat cs.length)), .unset, .unset, .unset, .unset] [(.int (1 : Int32)), (.int (Int32.ofNat cs.length))] B_ := fun t_ hh => k9 t_ (by
     refine XS.icmpNo X44.here hx rfl (hb hby own_h763) rfl (own_icF_ne c22) ?_
     refine XS.iloadN X44.here hx rfl (hb hby own_h764) rfl ?_
     refine XS.iconst X44.here hx rfl (hb hby own_h765) ?_
     exact hh)
    clear k9
    by_cases c27 : (1 : Int32) < (Int32.ofNat cs.length)
    ·
     have k11 : own_J p e below T40 m 31 #[.val (.ref a), .val (.int (Int32.ofNat cs.length)), .unset, .unset, .unset, .unset] [(.int (-1 : Int32))] B_ := fun t_ hh => k10 t_ (by
      refine XS.icmpNo X44.here hx rfl (hb hby own_h766) rfl (own_icF_le c27) ?_
      refine XS.iconst X44.here hx rfl (hb hby own_h767) ?_
      exact hh)
     clear k10
     obtain ⟨fs, hr, hrun, hended, hW, hsame⟩ := X44.leave (v := some (.int (-1 : Int32))) (fun h => by rw [Bd.returns] at h; cases h)
     refine ⟨_, _, (own_from hB_ (k11 _ (retOut X44 hx (t := .int) Bd.returns rfl (Or.inl ⟨rfl, (by simp), _, rfl⟩) (hb hby own_h768) hr))), hrun, hended, _, _, rfl, ?_, ⟨_, rfl⟩, hW, hsame.mono (own_l rfl) (own_l rfl)⟩
     show Q_q cs h0 n0 _ T40.heap _
     rw [e57]
     exact ⟨congrArg (fun z => some (Value.int z)) (own_qid_zero c22 ((own_gtlit h11 (m := 1) rfl).mp c27)).symm, N58, rfl⟩
    ·
     have k12 : own_J p e below T40 m 37 #[.val (.ref a), .val (.int (Int32.ofNat cs.length)), .val (.long (0 : Int64)), .second, .val (.int (0 : Int32)), .unset] [] B_ := fun t_ hh => k10 t_ (by
      refine XS.icmpYes X44.here hx rfl (pc0 := 27) (pc' := 32) rfl (hb hby own_h766) rfl (own_icT_le c27) (by decide) (by decide) ?_
      refine XS.lconst X44.here hx rfl (hb hby own_h769) ?_
      refine XS.lstoreN X44.here hx rfl (hb hby own_h770) rfl (l' := #[.val (.ref a), .val (.int (Int32.ofNat cs.length)), .val (.long (0 : Int64)), .second, .unset, .unset]) rfl ?_
      refine XS.iconst X44.here hx rfl (hb hby own_h771) ?_
      refine XS.istore X44.here hx rfl (hb hby own_h772) rfl (l' := #[.val (.ref a), .val (.int (Int32.ofNat cs.length)), .val (.long (0 : Int64)), .second, .val (.int (0 : Int32)), .unset]) rfl ?_
      exact hh)
     clear k10
     have h10 : cs.length ≤ 10 := Nat.not_lt.mp (fun z => c12 ((own_gtlit h11 (m := 10) rfl).mpr z))
     rcases own_firstN cs cs.length with hall | ⟨k, hk, hbad, hlo⟩
     ·
      have kk59 : own_J p e below T40 m 37 #[.val (.ref a), .val (.int (Int32.ofNat cs.length)), .val (.long (0 : Int64)), .second, .val (.int (Int32.ofNat (cs.length - cs.length))), .unset] [] B_ := by rw [Nat.sub_self]; exact k12
      obtain ⟨T60, L69, q61, sl62, X63, e64, N68, hq65, hsl66, kk67⟩ := own_qU_l Z a0 hw hx hby hml hZ hown a cs h0 n0 Z0 O0 h10 hch t kt ds S ci sC hc gv sG hg sA sH sL _ cs.length (Nat.le_refl _) hall cs.length (Nat.le_refl _) _ _ _ _ X44 e57 N58 (by rw [Nat.sub_self]; rfl) (Or.inl rfl) kk59
      have k13 : own_J p e below T60 m 92 #[.val (.ref a), .val (.int (Int32.ofNat cs.length)), .val (.long q61), .second, .val (.int (Int32.ofNat cs.length)), sl62] [(.int (lcmpW q61 (2147483647 : Int64)))] B_ := fun t_ hh => kk67 t_ (by
       refine XS.iload X63.here hx rfl (hb hby own_h773) rfl ?_
       refine XS.iloadN X63.here hx rfl (hb hby own_h774) rfl ?_
       refine XS.icmpYes X63.here hx rfl (pc0 := 40) (pc' := 87) rfl (hb hby own_h775) rfl (own_icT_ge (fun q => absurd ((own_lt32 (by omega) (by omega)).mp q) (by omega))) (by decide) (by decide) ?_
       refine XS.lloadN X63.here hx rfl (hb hby own_h799) rfl ?_
       refine X63.ldc2Long hx hown (mvT hZ (wT hw 119 rfl)) (g := (mkF m 88 #[.val (.ref a), .val (.int (Int32.ofNat cs.length)), .val (.long q61), .second, .val (.int (Int32.ofNat cs.length)), sl62] [(.long q61)])) rfl (hb hby own_h800) _ ?_
       refine XS.lcmp X63.here hx rfl (hb hby own_h801) rfl ?_
       exact hh)
      clear kk67
      by_cases c92 : 0 < (lcmpW q61 (2147483647 : Int64))
      ·
       have k14 : own_J p e below T60 m 101 #[.val (.ref a), .val (.int (Int32.ofNat cs.length)), .val (.long q61), .second, .val (.int (Int32.ofNat cs.length)), sl62] [(.int (-1 : Int32))] B_ := fun t_ hh => k13 t_ (by
        refine XS.ifYes X63.here hx rfl (pc0 := 92) (pc' := 100) rfl (hb hby own_h802) rfl (own_ifT_gt c92) (by decide) (by decide) ?_
        refine XS.iconst X63.here hx rfl (hb hby own_h806) ?_
        exact hh)
       clear k13
       obtain ⟨fs, hr, hrun, hended, hW, hsame⟩ := X63.leave (v := some (.int (-1 : Int32))) (fun h => by rw [Bd.returns] at h; cases h)
       refine ⟨_, _, (own_from hB_ (k14 _ (retOut X63 hx (t := .int) Bd.returns rfl (Or.inl ⟨rfl, (by simp), _, rfl⟩) (hb hby own_h807) hr))), hrun, hended, _, _, rfl, ?_, ⟨_, rfl⟩, hW, hsame.mono (own_l rfl) (own_l rfl)⟩
       show Q_q cs h0 n0 _ T60.heap _
       rw [e64]
       exact ⟨congrArg (fun z => some (Value.int z)) ((own_fin (Nat.pos_of_ne_zero fun z => c6 (by rw [z]; rfl)) h10 (fun z => c27 ((own_gtlit h11 (m := 1) rfl).mpr z.2)) hall hq65).trans (if_pos c92)).symm, N68, rfl⟩
      ·
       have k15 : own_J p e below T60 m 101 #[.val (.ref a), .val (.int (Int32.ofNat cs.length)), .val (.long q61), .second, .val (.int (Int32.ofNat cs.length)), sl62] [(.int (q61.toInt32))] B_ := fun t_ hh => k13 t_ (by
        refine XS.ifNo X63.here hx rfl (hb hby own_h802) rfl (own_ifF_gt c92) ?_
        refine XS.lloadN X63.here hx rfl (hb hby own_h803) rfl ?_
        refine XS.l2i X63.here hx rfl (hb hby own_h804) rfl ?_
        refine XS.goto X63.here hx rfl (pc0 := 97) (pc' := 101) rfl (hb hby own_h805) (by decide) (by decide) ?_
        exact hh)
       clear k13
       obtain ⟨fs, hr, hrun, hended, hW, hsame⟩ := X63.leave (v := some (.int (q61.toInt32))) (fun h => by rw [Bd.returns] at h; cases h)
       refine ⟨_, _, (own_from hB_ (k15 _ (retOut X63 hx (t := .int) Bd.returns rfl (Or.inl ⟨rfl, (by simp), _, rfl⟩) (hb hby own_h807) hr))), hrun, hended, _, _, rfl, ?_, ⟨_, rfl⟩, hW, hsame.mono (own_l rfl) (own_l rfl)⟩
       show Q_q cs h0 n0 _ T60.heap _
       rw [e64]
       exact ⟨congrArg (fun z => some (Value.int z)) ((own_fin (Nat.pos_of_ne_zero fun z => c6 (by rw [z]; rfl)) h10 (fun z => c27 ((own_gtlit h11 (m := 1) rfl).mpr z.2)) hall hq65).trans (if_neg c92)).symm, N68, rfl⟩
     ·
      have kk70 : own_J p e below T40 m 37 #[.val (.ref a), .val (.int (Int32.ofNat cs.length)), .val (.long (0 : Int64)), .second, .val (.int (Int32.ofNat (k - k))), .unset] [] B_ := by rw [Nat.sub_self]; exact k12
      obtain ⟨T71, L80, q72, sl73, X74, e75, N79, hq76, hsl77, kk78⟩ := own_qU_l Z a0 hw hx hby hml hZ hown a cs h0 n0 Z0 O0 h10 hch t kt ds S ci sC hc gv sG hg sA sH sL _ k (Nat.le_of_lt hk) hlo k (Nat.le_refl _) _ _ _ _ X44 e57 N58 (by rw [Nat.sub_self]; rfl) (Or.inl rfl) kk70
      have k16 : own_J p e below T71 m 46 #[.val (.ref a), .val (.int (Int32.ofNat cs.length)), .val (.long q72), .second, .val (.int (Int32.ofNat k)), sl73] [(.int (Int32.ofNat k)), (.ref a)] B_ := fun t_ hh => kk78 t_ (by
       refine XS.iload X74.here hx rfl (hb hby own_h773) rfl ?_
       refine XS.iloadN X74.here hx rfl (hb hby own_h774) rfl ?_
       refine XS.icmpNo X74.here hx rfl (hb hby own_h775) rfl (own_icF_ge ((own_lt32 (by omega) (by omega)).mpr hk)) ?_
       refine XS.aloadN X74.here hx rfl (hb hby own_h776) rfl rfl ?_
       refine XS.iload X74.here hx rfl (hb hby own_h777) rfl ?_
       exact hh)
      clear kk78
      obtain ⟨cq92, kq93, qa94, qb95, qc96⟩ := isOf hZ e75 S.1
      obtain ⟨_, _, ⟨T81, L82, k_83, n_84⟩, -, X85, ⟨Lc86, hQ87, l_88, y_89, z_90⟩, st91⟩ := X74.virtualBack hx (y := (⟨"java/lang/String", "charAt", "(I)C"⟩ : MethodName)) (z := (⟨"java/lang/String", "charAt", "(I)C"⟩ : MethodName)) hown (mvT hZ (wT hw 66 rfl)) (mvT hZ (wT hw 67 rfl)) (notFace_of_selects (args := #[]) (mvT hZ (wT hw 69 rfl))) (mvT hZ (wT hw 69 rfl)) (mvT hZ (wT hw 68 rfl)) (by decide) (backOf (W := 0) (rmChA l Z a0 hw [] a k (cs.getD k 0) t kt cs.length ds h0 n0 Z0 S.1 S.2.1 S.2.2.1 S.2.2.2.1 h11 hk O0 (S.2.2.2.2.2 k hk).1 (S.2.2.2.2.2 k hk).2 (own_chD hch hk).1 (own_chD hch hk).2 sA sH sL gv sG hg ci sC hc) hZ (wT hw 70 rfl) (wT hw 25 rfl) (by decide) (by decide)) qa94 qc96 (g := (mkF m 46 #[.val (.ref a), .val (.int (Int32.ofNat cs.length)), .val (.long q72), .second, .val (.int (Int32.ofNat k)), sl73] [(.int (Int32.ofNat k)), (.ref a)])) rfl (by rw [hml]; rfl) (Steps.refl _) (argsL := [(.int (Int32.ofNat k))]) (rest := []) (lenOf own_h808 rfl) rfl (by show 2 * 0 + _ ≤ _; exact Nat.le_of_eq rfl) (hb hby own_h778) (fun _ _ => ⟨rfl, e75, own_l rfl, own_l rfl⟩)
      dsimp only [Pt.U, Pt.locs, Pt.cells, Pt.slots] at X85 l_88 y_89 z_90 st91 hQ87
      replace l_88 := l_88.symm
      subst l_88 y_89 z_90
      obtain ⟨rfl, N97, e98⟩ := hQ87
      have N99 := Fr.app N79 N97
      have k17 : own_J p e below T81 m 49 #[.val (.ref a), .val (.int (Int32.ofNat cs.length)), .val (.long q72), .second, .val (.int (Int32.ofNat k)), sl73] [(.int (cs.getD k 0))] B_ := fun t_ hh => k16 t_ (st91.trans hh)
      clear k16 st91 X74 e75
      have k18 : own_J p e below T81 m 55 #[.val (.ref a), .val (.int (Int32.ofNat cs.length)), .val (.long q72), .second, .val (.int (Int32.ofNat k)), .val (.int (cs.getD k 0))] [(.int (48 : Int32)), (.int (cs.getD k 0))] B_ := fun t_ hh => k17 t_ (by
       refine XS.istore X85.here hx rfl (hb hby own_h779) rfl (l' := #[.val (.ref a), .val (.int (Int32.ofNat cs.length)), .val (.long q72), .second, .val (.int (Int32.ofNat k)), .val (.int (cs.getD k 0))]) (by rcases hsl77 with rfl | ⟨x, rfl⟩ <;> rfl) ?_
       refine XS.iload X85.here hx rfl (hb hby own_h780) rfl ?_
       refine XS.bipush X85.here hx rfl (hb hby own_h781) ?_
       exact hh)
      clear k17
      by_cases c55 : (cs.getD k 0) < (48 : Int32)
      ·
       have k19 : own_J p e below T81 m 66 #[.val (.ref a), .val (.int (Int32.ofNat cs.length)), .val (.long q72), .second, .val (.int (Int32.ofNat k)), .val (.int (cs.getD k 0))] [(.int (-1 : Int32))] B_ := fun t_ hh => k18 t_ (by
        refine XS.icmpYes X85.here hx rfl (pc0 := 55) (pc' := 65) rfl (hb hby own_h782) rfl (own_icT_lt c55) (by decide) (by decide) ?_
        refine XS.iconst X85.here hx rfl (hb hby own_h786) ?_
        exact hh)
       clear k18
       obtain ⟨fs, hr, hrun, hended, hW, hsame⟩ := X85.leave (v := some (.int (-1 : Int32))) (fun h => by rw [Bd.returns] at h; cases h)
       refine ⟨_, _, (own_from hB_ (k19 _ (retOut X85 hx (t := .int) Bd.returns rfl (Or.inl ⟨rfl, (by simp), _, rfl⟩) (hb hby own_h787) hr))), hrun, hended, _, _, rfl, ?_, ⟨_, rfl⟩, hW, hsame.mono (own_l rfl) (own_l rfl)⟩
       show Q_q cs h0 n0 _ T81.heap _
       rw [e98]
       exact ⟨congrArg (fun z => some (Value.int z)) (own_qid_bad hk hbad).symm, N99, rfl⟩
      ·
       have k20 : own_J p e below T81 m 66 #[.val (.ref a), .val (.int (Int32.ofNat cs.length)), .val (.long q72), .second, .val (.int (Int32.ofNat k)), .val (.int (cs.getD k 0))] [(.int (-1 : Int32))] B_ := fun t_ hh => k18 t_ (by
        refine XS.icmpNo X85.here hx rfl (hb hby own_h782) rfl (own_icF_lt c55) ?_
        refine XS.iload X85.here hx rfl (hb hby own_h783) rfl ?_
        refine XS.bipush X85.here hx rfl (hb hby own_h784) ?_
        refine XS.icmpNo X85.here hx rfl (hb hby own_h785) rfl (own_icF_le (own_gt57 hbad c55)) ?_
        refine XS.iconst X85.here hx rfl (hb hby own_h786) ?_
        exact hh)
       clear k18
       obtain ⟨fs, hr, hrun, hended, hW, hsame⟩ := X85.leave (v := some (.int (-1 : Int32))) (fun h => by rw [Bd.returns] at h; cases h)
       refine ⟨_, _, (own_from hB_ (k20 _ (retOut X85 hx (t := .int) Bd.returns rfl (Or.inl ⟨rfl, (by simp), _, rfl⟩) (hb hby own_h787) hr))), hrun, hended, _, _, rfl, ?_, ⟨_, rfl⟩, hW, hsame.mono (own_l rfl) (own_l rfl)⟩
       show Q_q cs h0 n0 _ T81.heap _
       rw [e98]
       exact ⟨congrArg (fun z => some (Value.int z)) (own_qid_bad hk hbad).symm, N99, rfl⟩
   ·
    have k21 : own_J p e below T40 m 37 #[.val (.ref a), .val (.int (Int32.ofNat cs.length)), .val (.long (0 : Int64)), .second, .val (.int (0 : Int32)), .unset] [] B_ := fun t_ hh => k9 t_ (by
     refine XS.icmpYes X44.here hx rfl (pc0 := 22) (pc' := 32) rfl (hb hby own_h763) rfl (own_icT_ne c22) (by decide) (by decide) ?_
     refine XS.lconst X44.here hx rfl (hb hby own_h769) ?_
     refine XS.lstoreN X44.here hx rfl (hb hby own_h770) rfl (l' := #[.val (.ref a), .val (.int (Int32.ofNat cs.length)), .val (.long (0 : Int64)), .second, .unset, .unset]) rfl ?_
     refine XS.iconst X44.here hx rfl (hb hby own_h771) ?_
     refine XS.istore X44.here hx rfl (hb hby own_h772) rfl (l' := #[.val (.ref a), .val (.int (Int32.ofNat cs.length)), .val (.long (0 : Int64)), .second, .val (.int (0 : Int32)), .unset]) rfl ?_
     exact hh)
    clear k9
    have h10 : cs.length ≤ 10 := Nat.not_lt.mp (fun z => c12 ((own_gtlit h11 (m := 10) rfl).mpr z))
    rcases own_firstN cs cs.length with hall | ⟨k, hk, hbad, hlo⟩
    ·
     have kk100 : own_J p e below T40 m 37 #[.val (.ref a), .val (.int (Int32.ofNat cs.length)), .val (.long (0 : Int64)), .second, .val (.int (Int32.ofNat (cs.length - cs.length))), .unset] [] B_ := by rw [Nat.sub_self]; exact k21
     obtain ⟨T101, L110, q102, sl103, X104, e105, N109, hq106, hsl107, kk108⟩ := own_qU_l Z a0 hw hx hby hml hZ hown a cs h0 n0 Z0 O0 h10 hch t kt ds S ci sC hc gv sG hg sA sH sL _ cs.length (Nat.le_refl _) hall cs.length (Nat.le_refl _) _ _ _ _ X44 e57 N58 (by rw [Nat.sub_self]; rfl) (Or.inl rfl) kk100
     have k22 : own_J p e below T101 m 92 #[.val (.ref a), .val (.int (Int32.ofNat cs.length)), .val (.long q102), .second, .val (.int (Int32.ofNat cs.length)), sl103] [(.int (lcmpW q102 (2147483647 : Int64)))] B_ := fun t_ hh => kk108 t_ (by
      refine XS.iload X104.here hx rfl (hb hby own_h773) rfl ?_
      refine XS.iloadN X104.here hx rfl (hb hby own_h774) rfl ?_
      refine XS.icmpYes X104.here hx rfl (pc0 := 40) (pc' := 87) rfl (hb hby own_h775) rfl (own_icT_ge (fun q => absurd ((own_lt32 (by omega) (by omega)).mp q) (by omega))) (by decide) (by decide) ?_
      refine XS.lloadN X104.here hx rfl (hb hby own_h799) rfl ?_
      refine X104.ldc2Long hx hown (mvT hZ (wT hw 119 rfl)) (g := (mkF m 88 #[.val (.ref a), .val (.int (Int32.ofNat cs.length)), .val (.long q102), .second, .val (.int (Int32.ofNat cs.length)), sl103] [(.long q102)])) rfl (hb hby own_h800) _ ?_
      refine XS.lcmp X104.here hx rfl (hb hby own_h801) rfl ?_
      exact hh)
     clear kk108
     by_cases c92 : 0 < (lcmpW q102 (2147483647 : Int64))
     ·
      have k23 : own_J p e below T101 m 101 #[.val (.ref a), .val (.int (Int32.ofNat cs.length)), .val (.long q102), .second, .val (.int (Int32.ofNat cs.length)), sl103] [(.int (-1 : Int32))] B_ := fun t_ hh => k22 t_ (by
       refine XS.ifYes X104.here hx rfl (pc0 := 92) (pc' := 100) rfl (hb hby own_h802) rfl (own_ifT_gt c92) (by decide) (by decide) ?_
       refine XS.iconst X104.here hx rfl (hb hby own_h806) ?_
       exact hh)
      clear k22
      obtain ⟨fs, hr, hrun, hended, hW, hsame⟩ := X104.leave (v := some (.int (-1 : Int32))) (fun h => by rw [Bd.returns] at h; cases h)
      refine ⟨_, _, (own_from hB_ (k23 _ (retOut X104 hx (t := .int) Bd.returns rfl (Or.inl ⟨rfl, (by simp), _, rfl⟩) (hb hby own_h807) hr))), hrun, hended, _, _, rfl, ?_, ⟨_, rfl⟩, hW, hsame.mono (own_l rfl) (own_l rfl)⟩
      show Q_q cs h0 n0 _ T101.heap _
      rw [e105]
      exact ⟨congrArg (fun z => some (Value.int z)) ((own_fin (Nat.pos_of_ne_zero fun z => c6 (by rw [z]; rfl)) h10 (fun z => c22 z.1) hall hq106).trans (if_pos c92)).symm, N109, rfl⟩
     ·
      have k24 : own_J p e below T101 m 101 #[.val (.ref a), .val (.int (Int32.ofNat cs.length)), .val (.long q102), .second, .val (.int (Int32.ofNat cs.length)), sl103] [(.int (q102.toInt32))] B_ := fun t_ hh => k22 t_ (by
       refine XS.ifNo X104.here hx rfl (hb hby own_h802) rfl (own_ifF_gt c92) ?_
       refine XS.lloadN X104.here hx rfl (hb hby own_h803) rfl ?_
       refine XS.l2i X104.here hx rfl (hb hby own_h804) rfl ?_
       refine XS.goto X104.here hx rfl (pc0 := 97) (pc' := 101) rfl (hb hby own_h805) (by decide) (by decide) ?_
       exact hh)
      clear k22
      obtain ⟨fs, hr, hrun, hended, hW, hsame⟩ := X104.leave (v := some (.int (q102.toInt32))) (fun h => by rw [Bd.returns] at h; cases h)
      refine ⟨_, _, (own_from hB_ (k24 _ (retOut X104 hx (t := .int) Bd.returns rfl (Or.inl ⟨rfl, (by simp), _, rfl⟩) (hb hby own_h807) hr))), hrun, hended, _, _, rfl, ?_, ⟨_, rfl⟩, hW, hsame.mono (own_l rfl) (own_l rfl)⟩
      show Q_q cs h0 n0 _ T101.heap _
      rw [e105]
      exact ⟨congrArg (fun z => some (Value.int z)) ((own_fin (Nat.pos_of_ne_zero fun z => c6 (by rw [z]; rfl)) h10 (fun z => c22 z.1) hall hq106).trans (if_neg c92)).symm, N109, rfl⟩
    ·
     have kk111 : own_J p e below T40 m 37 #[.val (.ref a), .val (.int (Int32.ofNat cs.length)), .val (.long (0 : Int64)), .second, .val (.int (Int32.ofNat (k - k))), .unset] [] B_ := by rw [Nat.sub_self]; exact k21
     obtain ⟨T112, L121, q113, sl114, X115, e116, N120, hq117, hsl118, kk119⟩ := own_qU_l Z a0 hw hx hby hml hZ hown a cs h0 n0 Z0 O0 h10 hch t kt ds S ci sC hc gv sG hg sA sH sL _ k (Nat.le_of_lt hk) hlo k (Nat.le_refl _) _ _ _ _ X44 e57 N58 (by rw [Nat.sub_self]; rfl) (Or.inl rfl) kk111
     have k25 : own_J p e below T112 m 46 #[.val (.ref a), .val (.int (Int32.ofNat cs.length)), .val (.long q113), .second, .val (.int (Int32.ofNat k)), sl114] [(.int (Int32.ofNat k)), (.ref a)] B_ := fun t_ hh => kk119 t_ (by
      refine XS.iload X115.here hx rfl (hb hby own_h773) rfl ?_
      refine XS.iloadN X115.here hx rfl (hb hby own_h774) rfl ?_
      refine XS.icmpNo X115.here hx rfl (hb hby own_h775) rfl (own_icF_ge ((own_lt32 (by omega) (by omega)).mpr hk)) ?_
      refine XS.aloadN X115.here hx rfl (hb hby own_h776) rfl rfl ?_
      refine XS.iload X115.here hx rfl (hb hby own_h777) rfl ?_
      exact hh)
     clear kk119
     obtain ⟨cq133, kq134, qa135, qb136, qc137⟩ := isOf hZ e116 S.1
     obtain ⟨_, _, ⟨T122, L123, k_124, n_125⟩, -, X126, ⟨Lc127, hQ128, l_129, y_130, z_131⟩, st132⟩ := X115.virtualBack hx (y := (⟨"java/lang/String", "charAt", "(I)C"⟩ : MethodName)) (z := (⟨"java/lang/String", "charAt", "(I)C"⟩ : MethodName)) hown (mvT hZ (wT hw 66 rfl)) (mvT hZ (wT hw 67 rfl)) (notFace_of_selects (args := #[]) (mvT hZ (wT hw 69 rfl))) (mvT hZ (wT hw 69 rfl)) (mvT hZ (wT hw 68 rfl)) (by decide) (backOf (W := 0) (rmChA l Z a0 hw [] a k (cs.getD k 0) t kt cs.length ds h0 n0 Z0 S.1 S.2.1 S.2.2.1 S.2.2.2.1 h11 hk O0 (S.2.2.2.2.2 k hk).1 (S.2.2.2.2.2 k hk).2 (own_chD hch hk).1 (own_chD hch hk).2 sA sH sL gv sG hg ci sC hc) hZ (wT hw 70 rfl) (wT hw 25 rfl) (by decide) (by decide)) qa135 qc137 (g := (mkF m 46 #[.val (.ref a), .val (.int (Int32.ofNat cs.length)), .val (.long q113), .second, .val (.int (Int32.ofNat k)), sl114] [(.int (Int32.ofNat k)), (.ref a)])) rfl (by rw [hml]; rfl) (Steps.refl _) (argsL := [(.int (Int32.ofNat k))]) (rest := []) (lenOf own_h808 rfl) rfl (by show 2 * 0 + _ ≤ _; exact Nat.le_of_eq rfl) (hb hby own_h778) (fun _ _ => ⟨rfl, e116, own_l rfl, own_l rfl⟩)
     dsimp only [Pt.U, Pt.locs, Pt.cells, Pt.slots] at X126 l_129 y_130 z_131 st132 hQ128
     replace l_129 := l_129.symm
     subst l_129 y_130 z_131
     obtain ⟨rfl, N138, e139⟩ := hQ128
     have N140 := Fr.app N120 N138
     have k26 : own_J p e below T122 m 49 #[.val (.ref a), .val (.int (Int32.ofNat cs.length)), .val (.long q113), .second, .val (.int (Int32.ofNat k)), sl114] [(.int (cs.getD k 0))] B_ := fun t_ hh => k25 t_ (st132.trans hh)
     clear k25 st132 X115 e116
     have k27 : own_J p e below T122 m 55 #[.val (.ref a), .val (.int (Int32.ofNat cs.length)), .val (.long q113), .second, .val (.int (Int32.ofNat k)), .val (.int (cs.getD k 0))] [(.int (48 : Int32)), (.int (cs.getD k 0))] B_ := fun t_ hh => k26 t_ (by
      refine XS.istore X126.here hx rfl (hb hby own_h779) rfl (l' := #[.val (.ref a), .val (.int (Int32.ofNat cs.length)), .val (.long q113), .second, .val (.int (Int32.ofNat k)), .val (.int (cs.getD k 0))]) (by rcases hsl118 with rfl | ⟨x, rfl⟩ <;> rfl) ?_
      refine XS.iload X126.here hx rfl (hb hby own_h780) rfl ?_
      refine XS.bipush X126.here hx rfl (hb hby own_h781) ?_
      exact hh)
     clear k26
     by_cases c55 : (cs.getD k 0) < (48 : Int32)
     ·
      have k28 : own_J p e below T122 m 66 #[.val (.ref a), .val (.int (Int32.ofNat cs.length)), .val (.long q113), .second, .val (.int (Int32.ofNat k)), .val (.int (cs.getD k 0))] [(.int (-1 : Int32))] B_ := fun t_ hh => k27 t_ (by
       refine XS.icmpYes X126.here hx rfl (pc0 := 55) (pc' := 65) rfl (hb hby own_h782) rfl (own_icT_lt c55) (by decide) (by decide) ?_
       refine XS.iconst X126.here hx rfl (hb hby own_h786) ?_
       exact hh)
      clear k27
      obtain ⟨fs, hr, hrun, hended, hW, hsame⟩ := X126.leave (v := some (.int (-1 : Int32))) (fun h => by rw [Bd.returns] at h; cases h)
      refine ⟨_, _, (own_from hB_ (k28 _ (retOut X126 hx (t := .int) Bd.returns rfl (Or.inl ⟨rfl, (by simp), _, rfl⟩) (hb hby own_h787) hr))), hrun, hended, _, _, rfl, ?_, ⟨_, rfl⟩, hW, hsame.mono (own_l rfl) (own_l rfl)⟩
      show Q_q cs h0 n0 _ T122.heap _
      rw [e139]
      exact ⟨congrArg (fun z => some (Value.int z)) (own_qid_bad hk hbad).symm, N140, rfl⟩
     ·
      have k29 : own_J p e below T122 m 66 #[.val (.ref a), .val (.int (Int32.ofNat cs.length)), .val (.long q113), .second, .val (.int (Int32.ofNat k)), .val (.int (cs.getD k 0))] [(.int (-1 : Int32))] B_ := fun t_ hh => k27 t_ (by
       refine XS.icmpNo X126.here hx rfl (hb hby own_h782) rfl (own_icF_lt c55) ?_
       refine XS.iload X126.here hx rfl (hb hby own_h783) rfl ?_
       refine XS.bipush X126.here hx rfl (hb hby own_h784) ?_
       refine XS.icmpNo X126.here hx rfl (hb hby own_h785) rfl (own_icF_le (own_gt57 hbad c55)) ?_
       refine XS.iconst X126.here hx rfl (hb hby own_h786) ?_
       exact hh)
      clear k27
      obtain ⟨fs, hr, hrun, hended, hW, hsame⟩ := X126.leave (v := some (.int (-1 : Int32))) (fun h => by rw [Bd.returns] at h; cases h)
      refine ⟨_, _, (own_from hB_ (k29 _ (retOut X126 hx (t := .int) Bd.returns rfl (Or.inl ⟨rfl, (by simp), _, rfl⟩) (hb hby own_h787) hr))), hrun, hended, _, _, rfl, ?_, ⟨_, rfl⟩, hW, hsame.mono (own_l rfl) (own_l rfl)⟩
      show Q_q cs h0 n0 _ T122.heap _
      rw [e139]
      exact ⟨congrArg (fun z => some (Value.int z)) (own_qid_bad hk hbad).symm, N140, rfl⟩
theorem rmQ (l : Launch) (Z : State) (a0 : Array Value) (hw : ∀ d ∈ tables_1, d.before a0 Z = true) (ws : List Jvm.Cond) (a : Addr) (cs : List Int32) (h0 : Heap) (n0 : Nat) (Z0 : n0 ≤ h0.size) (O0 : Old Z n0 h0) (h11 : cs.length ≤ 11) (hch : own_chs cs) (S : own_S Z h0 a cs) (ci : Int32) (sC : Sta Z Z.heap "java/lang/String" "COMPACT_STRINGS" "Z" (.int ci)) (hc : ¬ ci = 0) (gv : Value) (sG : Sta Z Z.heap "jdk/internal/util/Preconditions" "SIOOBE_FORMATTER" "Ljava/util/function/BiFunction;" gv) (hg : gv.isRef = true) (sA : Sta Z Z.heap "java/lang/StringUTF16" "$assertionsDisabled" "Z" (.int (1 : Int32))) (sH : Sta Z Z.heap "java/lang/StringUTF16" "HI_BYTE_SHIFT" "I" (.int (0 : Int32))) (sL : Sta Z Z.heap "java/lang/StringUTF16" "LO_BYTE_SHIFT" "I" (.int (8 : Int32))) : own_Met l (⟨"com/example/commitlog/commitlog/ConsumeQueues", "queueIdOf", "(Ljava/lang/String;)I"⟩ : MethodName) prog_6_method_4_code 6 (some .int) ws (rO 8 0 0 130) #[(.ref a)] Z h0 (Q_q cs h0 n0) := by
 rcases S with ⟨t, kb, S, hbs8⟩ | ⟨t, kt, ds, S⟩
 · exact rmQL l Z a0 hw ws a cs h0 n0 Z0 O0 h11 hch t kb S hbs8 ci sC hc gv sG hg sA sH sL
 · exact rmQU l Z a0 hw ws a cs h0 n0 Z0 O0 h11 hch t kt ds S ci sC hc gv sG hg sA sH sL
def Q_rmDg (Z : State) (tv : Int64) (pw : Int64) (h0 : Heap) (n0 : Nat) (v : Option Value) (h : Heap) (L : List Loc) : Prop := ∃ dg : Int32, v = some (.int dg) ∧ Fr n0 L ∧ Keep h0 h [] ∧ dg.toInt = 48 + tv.toInt / pw.toInt % 10 ∧ True
theorem own_h811 : decode method_3_code 0 = .ok (.bipush 48, 2) := by decide +kernel
theorem own_h812 : decode method_3_code 2 = .ok (.lload_n 0, 1) := by decide +kernel
theorem own_h813 : decode method_3_code 3 = .ok (.lload_n 2, 1) := by decide +kernel
theorem own_h814 : decode method_3_code 4 = .ok (.ldiv, 1) := by decide +kernel
theorem own_h815 : decode method_3_code 5 = .ok (.ldc2_w 7, 3) := by decide +kernel
theorem own_h816 : decode method_3_code 8 = .ok (.lrem, 1) := by decide +kernel
theorem own_h817 : decode method_3_code 9 = .ok (.l2i, 1) := by decide +kernel
theorem own_h818 : decode method_3_code 10 = .ok (.iadd, 1) := by decide +kernel
theorem own_h819 : decode method_3_code 11 = .ok (.i2c, 1) := by decide +kernel
theorem own_h820 : decode method_3_code 12 = .ok (.ireturn, 1) := by decide +kernel
theorem rmDg (l : Launch) (Z : State) (a0 : Array Value) (hw : ∀ d ∈ tables_1, d.before a0 Z = true) (ws : List Jvm.Cond) (tv : Int64) (pw : Int64) (h0 : Heap) (n0 : Nat) (Z0 : n0 ≤ h0.size) (ht : 0 ≤ tv.toInt) (hp : 0 < pw.toInt) (hp0 : ¬ pw = 0) (hp1 : pw ≠ -1)  :
    own_Met l (⟨"com/example/commitlog/commitlog/ConsumeQueuesQueueIdOfPinLaw", "digit", "(JJ)C"⟩ : MethodName) method_3_code 4 (some .char) ws (rO 0 0 0 0) #[(.long tv), (.long pw)] Z h0 (Q_rmDg Z tv pw h0 n0) := by
 refine MetFree.of_bodySF (plainFor_of_name own_h249) hisR ?_
 intro p e s m args below meth c s₁ Bd hml0 hP hK
 obtain ⟨rfl, hZ, hh⟩ := hP
 have hx := Bd.exec
 have hby := Bd.bytes
 have hml : c.maxLocals = 4 := hml0
 have hown : s.vm.findClass "com/example/commitlog/commitlog/ConsumeQueuesQueueIdOfPinLaw" = some m.cls := findClass_of_methodNamed Bd.named
 have hnm := (name_of_methodNamed Bd.named Bd.method).1
 have X0 : Stand p l e (rO 0 0 0 0) s m #[(.long tv), (.long pw)] below meth c s₁ [] 0 0 := Stand.of_body Bd
 have e0 : s₁.heap = h0 := by rw [← hh, Bd.state]; rfl
 have N0 := Fr.nil n0
 obtain ⟨B_, hB_⟩ : ∃ z, z = s₁.setTop (entryFrame m #[(.long tv), (.long pw)] 4) := ⟨_, rfl⟩
 have k0 : own_K p e below (s₁.setTop (mkF m 0 #[.val (.long tv), .second, .val (.long pw), .second] [])) B_ := by rw [hB_]; exact fun t k => castTop (by clear k; first | (simp [entryFrame, mkF, argsToLocals, Value.category, maxLocals]; done) | rfl) k
 have K0 : Keep h0 h0 [] := Keep.refl _ _
 have k1 : own_J p e below s₁ m 12 #[.val (.long tv), .second, .val (.long pw), .second] [(.int (((48 : Int32) + (((tv / pw) - ((tv / pw) / (10 : Int64)) * (10 : Int64)).toInt32)).toUInt32.toUInt16.toUInt32.toInt32))] B_ := fun t_ hh => k0 t_ (by
  refine XS.bipush X0.here hx rfl (hb hby own_h811) ?_
  refine XS.lloadN X0.here hx rfl (hb hby own_h812) rfl ?_
  refine XS.lloadN X0.here hx rfl (hb hby own_h813) rfl ?_
  refine XS.ldiv X0.here hx rfl (hb hby own_h814) rfl hp0 ?_
  refine X0.ldc2Long hx hown (mvT hZ (wT hw 1 rfl)) (g := (mkF m 5 #[.val (.long tv), .second, .val (.long pw), .second] [(.long (tv / pw)), (.int (48 : Int32))])) rfl (hb hby own_h815) _ ?_
  refine XS.lrem X0.here hx rfl (hb hby own_h816) rfl (by decide) ?_
  refine XS.l2i X0.here hx rfl (hb hby own_h817) rfl ?_
  refine XS.iadd X0.here hx rfl (hb hby own_h818) rfl ?_
  refine XS.i2c X0.here hx rfl (hb hby own_h819) rfl ?_
  exact hh)
 obtain ⟨fs, hr, hrun, hended, hW, hsame⟩ := X0.leave (v := some (.int (nar .char (((48 : Int32) + (((tv / pw) - ((tv / pw) / (10 : Int64)) * (10 : Int64)).toInt32)).toUInt32.toUInt16.toUInt32.toInt32)))) (fun h => by rw [Bd.returns] at h; cases h)
 refine ⟨_, _, (own_from hB_ (k1 _ (retN X0 hx (t := .char) Bd.returns (by simp) (hb hby own_h820) hr))), hrun, hended, _, _, rfl, ?_, ⟨_, rfl⟩, hW, hsame.mono (own_l rfl) (own_l rfl)⟩
 show Q_rmDg Z tv pw h0 n0 _ s₁.heap _
 rw [e0]
 exact ⟨(nar .char (((48 : Int32) + (((tv / pw) - ((tv / pw) / (10 : Int64)) * (10 : Int64)).toInt32)).toUInt32.toUInt16.toUInt32.toInt32)), rfl, N0, K0, (own_digit ht hp hp1), trivial⟩
def QL (h0 : Heap) (n0 : Nat) (v : Option Value) (h : Heap) (L : List Loc) : Prop := v = some (.int 1) ∧ Fr n0 L
theorem own_h821 : parseMethodDescriptor "(JJ)C" = some ⟨[.long, .long], some .char⟩ := by decide +kernel
theorem own_h822 : parseMethodDescriptor "([CI)Ljava/lang/String;" = some ⟨[.array .char, .int], some (.object "java/lang/String")⟩ := by decide +kernel
theorem own_h823 : parseMethodDescriptor "(Ljava/lang/String;)I" = some ⟨[.object "java/lang/String"], some .int⟩ := by decide +kernel
theorem rmL (l : Launch) (Z : State) (a0 : Array Value) (hw : ∀ d ∈ tables_1, d.before a0 Z = true) (ws : List Jvm.Cond) (xv : Int64) (lv pv hv fv : Int32) (h0 : Heap) (n0 : Nat) (Z0 : n0 ≤ h0.size) (O0 : Old Z n0 h0) (ci : Int32) (sC : Sta Z Z.heap "java/lang/String" "COMPACT_STRINGS" "Z" (.int ci)) (hc : ¬ ci = 0) (gv : Value) (sG : Sta Z Z.heap "jdk/internal/util/Preconditions" "SIOOBE_FORMATTER" "Ljava/util/function/BiFunction;" gv) (hg : gv.isRef = true) (sA : Sta Z Z.heap "java/lang/StringUTF16" "$assertionsDisabled" "Z" (.int (1 : Int32))) (sH : Sta Z Z.heap "java/lang/StringUTF16" "HI_BYTE_SHIFT" "I" (.int (0 : Int32))) (sL : Sta Z Z.heap "java/lang/StringUTF16" "LO_BYTE_SHIFT" "I" (.int (8 : Int32))) :
    MetFree l x (head1 (Jvm.Cond.code x code maxLocals ret :: ws) room_1) (fun ar_ U => ar_ = #[(.long xv), (.int lv), (.int pv), (.int hv), (.int fv)] ∧ Z.Warmed39 U.vm ∧ U.heap = h0 ∧ CHv Z own_EL U.vm h0) (fun _ _ _ _ _ => True) (fun _ U o U' => ∃ v L, o = .returned v ∧ QL h0 n0 v U'.heap L ∧ ReturnedEndW U o U' L 24 1280) := by
 refine MetFree.of_bodySF (plainFor_of_name own_h249) hisR ?_
 intro p e s m args below meth c s₁ Bd hml0 hP hK
 obtain ⟨rfl, hZ, hh, hCH⟩ := hP
 have hx := Bd.exec
 have hby := Bd.bytes
 have hml : c.maxLocals = 21 := hml0
 have hown : s.vm.findClass "com/example/commitlog/commitlog/ConsumeQueuesQueueIdOfPinLaw" = some m.cls := findClass_of_methodNamed Bd.named
 have hnm := (name_of_methodNamed Bd.named Bd.method).1
 have X0 : Stand p l e room_1 (s.setVm s.vm) m #[(.long xv), (.int lv), (.int pv), (.int hv), (.int fv)] below meth c s₁ [] 0 0 := Stand.of_body Bd
 have hS0 : s.Since s.vm 0 := (State.WarmedH.refl s).since 0
 have hk0 : 0 ≤ h0.size := Nat.zero_le _
 have hZ : Z.Warmed39 (s.setVm s.vm).vm := hZ
 have hown : (s.setVm s.vm).vm.findClass "com/example/commitlog/commitlog/ConsumeQueuesQueueIdOfPinLaw" = some m.cls := hown
 have Cr0 : CHr Z own_EL s.vm h0 s.vm h0 := CHr.refl hCH
 have e0 : s₁.heap = h0 := by rw [← hh, Bd.state]; rfl
 have N0 := Fr.nil n0
 obtain ⟨B_, hB_⟩ : ∃ z, z = s₁.setTop (entryFrame m #[(.long xv), (.int lv), (.int pv), (.int hv), (.int fv)] maxLocals) := ⟨_, rfl⟩
 have k0 : own_K p e below (s₁.setTop (mkF m 0 #[.val (.long xv), .second, .val (.int lv), .val (.int pv), .val (.int hv), .val (.int fv), .unset, .unset, .unset, .unset, .unset, .unset, .unset, .unset, .unset, .unset, .unset, .unset, .unset, .unset, .unset] [])) B_ := by rw [hB_]; exact fun t k => castTop (by clear k; first | (simp [entryFrame, mkF, argsToLocals, Value.category, maxLocals]; done) | rfl) k
 have k1 : own_J p e below s₁ m 2 #[.val (.long xv), .second, .val (.int lv), .val (.int pv), .val (.int hv), .val (.int fv), .unset, .unset, .unset, .unset, .unset, .unset, .unset, .unset, .unset, .unset, .unset, .unset, .unset, .unset, .unset] [(.int (12 : Int32))] B_ := fun t_ hh => k0 t_ (by
  refine XS.bipush X0.here hx rfl (hb hby at_0) ?_
  exact hh)
 obtain ⟨T21, h22, kA23, X24, e25, E26, A27, st29⟩ := newP X0 hx hZ (wT hw 0 rfl) e0 (g := (mkF m 2 #[.val (.long xv), .second, .val (.int lv), .val (.int pv), .val (.int hv), .val (.int fv), .unset, .unset, .unset, .unset, .unset, .unset, .unset, .unset, .unset, .unset, .unset, .unset, .unset, .unset, .unset] [(.int (12 : Int32))])) rfl (hb hby at_2) rfl (by decide) (cap := 12) (by decide) (by decide) (by decide) (by decide)
 obtain ⟨a30, g31⟩ : ∃ z, z = h0.size := ⟨_, rfl⟩
 rw [← g31] at A27 st29
 have G32 : n0 ≤ a30 := Nat.le_trans Z0 (Nat.le_of_eq g31.symm)
 have hk33 := Nat.le_trans hk0 E26.1
 have Sf34 := Safe.ext E26 Cr0.1 (Safe.new (x := a30) (Nat.le_of_eq g31.symm))
 have Z35 : n0 ≤ h22.size := Nat.le_trans Z0 E26.1
 have O36 := O0.ext E26
 have Cr37 := Cr0.trans (CHr.ext E26 Cr0.1)
 have V38 : Arv Z h22 a30 kA23 .long (12 : Int32) [(.long (0 : Int64)), (.long (0 : Int64)), (.long (0 : Int64)), (.long (0 : Int64)), (.long (0 : Int64)), (.long (0 : Int64)), (.long (0 : Int64)), (.long (0 : Int64)), (.long (0 : Int64)), (.long (0 : Int64)), (.long (0 : Int64)), (.long (0 : Int64))] (.long (0 : Int64)) := Arv.pad (Arv.new A27 (by decide)) (pad_rep [] (.long (0 : Int64)) 12)
 have k2 : own_J p e below T21 m 4 #[.val (.long xv), .second, .val (.int lv), .val (.int pv), .val (.int hv), .val (.int fv), .unset, .unset, .unset, .unset, .unset, .unset, .unset, .unset, .unset, .unset, .unset, .unset, .unset, .unset, .unset] [(.ref a30)] B_ := fun t_ hh => k1 t_ (st29 t_ hh)
 clear k1 st29
 have k3 : own_J p e below T21 m 7 #[.val (.long xv), .second, .val (.int lv), .val (.int pv), .val (.int hv), .val (.int fv), .unset, .unset, .unset, .unset, .unset, .unset, .unset, .unset, .unset, .unset, .unset, .unset, .unset, .unset, .unset] [(.long (1 : Int64)), (.int (0 : Int32)), (.ref a30), (.ref a30)] B_ := fun t_ hh => k2 t_ (by
  refine XS.dup X24.here hx rfl (hb hby at_4) rfl rfl ?_
  refine XS.iconst X24.here hx rfl (hb hby at_5) ?_
  refine XS.lconst X24.here hx rfl (hb hby at_6) ?_
  exact hh)
 clear k2
 obtain ⟨cl39, Ar40, q41, S42, Ng43, H44, Gf45⟩ := id V38
 have hin46 := inb_of (j := (0 : Int32)) S42 (by decide)
 obtain ⟨T47, h48, X49, e50, W51, st52⟩ := stJ X24 hx hZ e25 Ar40 (j := (0 : Int32)) hin46 (g := (mkF m 7 #[.val (.long xv), .second, .val (.int lv), .val (.int pv), .val (.int hv), .val (.int fv), .unset, .unset, .unset, .unset, .unset, .unset, .unset, .unset, .unset, .unset, .unset, .unset, .unset, .unset, .unset] [(.long (1 : Int64)), (.int (0 : Int32)), (.ref a30), (.ref a30)])) rfl rfl (hb hby at_7)
 have N53 := Fr.snoc X49 N0 G32
 have K54 : Keep h22 h48 [a30] := Keep.of_wr W51
 have V55 := Arv.set Ar40 q41 S42 Ng43 H44 Gf45 (v := (.long (1 : Int64))) rfl W51 0 rfl (own_lt rfl)
 have k4 : own_J p e below T47 m 8 #[.val (.long xv), .second, .val (.int lv), .val (.int pv), .val (.int hv), .val (.int fv), .unset, .unset, .unset, .unset, .unset, .unset, .unset, .unset, .unset, .unset, .unset, .unset, .unset, .unset, .unset] [(.ref a30)] B_ := fun t_ hh => k3 t_ (st52 t_ hh)
 clear k3 st52 X24 e25 cl39 Ar40 q41 S42 Ng43 H44 Gf45 hin46 W51 V38
 have k5 : own_J p e below T47 m 13 #[.val (.long xv), .second, .val (.int lv), .val (.int pv), .val (.int hv), .val (.int fv), .unset, .unset, .unset, .unset, .unset, .unset, .unset, .unset, .unset, .unset, .unset, .unset, .unset, .unset, .unset] [(.long (10 : Int64)), (.int (1 : Int32)), (.ref a30), (.ref a30)] B_ := fun t_ hh => k4 t_ (by
  refine XS.dup X49.here hx rfl (hb hby at_8) rfl rfl ?_
  refine XS.iconst X49.here hx rfl (hb hby at_9) ?_
  refine X49.ldc2Long hx hown (mvT hZ (wT hw 1 rfl)) (g := (mkF m 10 #[.val (.long xv), .second, .val (.int lv), .val (.int pv), .val (.int hv), .val (.int fv), .unset, .unset, .unset, .unset, .unset, .unset, .unset, .unset, .unset, .unset, .unset, .unset, .unset, .unset, .unset] [(.int (1 : Int32)), (.ref a30), (.ref a30)])) rfl (hb hby at_10) _ ?_
  exact hh)
 clear k4
 obtain ⟨cl56, Ar57, q58, S59, Ng60, H61, Gf62⟩ := id V55
 have hin63 := inb_of (j := (1 : Int32)) S59 (by decide)
 obtain ⟨T64, h65, X66, e67, W68, st69⟩ := stJ X49 hx hZ e50 Ar57 (j := (1 : Int32)) hin63 (g := (mkF m 13 #[.val (.long xv), .second, .val (.int lv), .val (.int pv), .val (.int hv), .val (.int fv), .unset, .unset, .unset, .unset, .unset, .unset, .unset, .unset, .unset, .unset, .unset, .unset, .unset, .unset, .unset] [(.long (10 : Int64)), (.int (1 : Int32)), (.ref a30), (.ref a30)])) rfl rfl (hb hby at_13)
 have N70 := Fr.snoc X66 N53 G32
 have K71 : Keep h22 h65 [a30] := K54.wr W68 own_m0
 have V72 := Arv.set Ar57 q58 S59 Ng60 H61 Gf62 (v := (.long (10 : Int64))) rfl W68 1 rfl (own_lt rfl)
 have k6 : own_J p e below T64 m 14 #[.val (.long xv), .second, .val (.int lv), .val (.int pv), .val (.int hv), .val (.int fv), .unset, .unset, .unset, .unset, .unset, .unset, .unset, .unset, .unset, .unset, .unset, .unset, .unset, .unset, .unset] [(.ref a30)] B_ := fun t_ hh => k5 t_ (st69 t_ hh)
 clear k5 st69 X49 e50 cl56 Ar57 q58 S59 Ng60 H61 Gf62 hin63 W68 K54 V55 N53
 have k7 : own_J p e below T64 m 19 #[.val (.long xv), .second, .val (.int lv), .val (.int pv), .val (.int hv), .val (.int fv), .unset, .unset, .unset, .unset, .unset, .unset, .unset, .unset, .unset, .unset, .unset, .unset, .unset, .unset, .unset] [(.long (100 : Int64)), (.int (2 : Int32)), (.ref a30), (.ref a30)] B_ := fun t_ hh => k6 t_ (by
  refine XS.dup X66.here hx rfl (hb hby at_14) rfl rfl ?_
  refine XS.iconst X66.here hx rfl (hb hby at_15) ?_
  refine X66.ldc2Long hx hown (mvT hZ (wT hw 2 rfl)) (g := (mkF m 16 #[.val (.long xv), .second, .val (.int lv), .val (.int pv), .val (.int hv), .val (.int fv), .unset, .unset, .unset, .unset, .unset, .unset, .unset, .unset, .unset, .unset, .unset, .unset, .unset, .unset, .unset] [(.int (2 : Int32)), (.ref a30), (.ref a30)])) rfl (hb hby at_16) _ ?_
  exact hh)
 clear k6
 obtain ⟨cl73, Ar74, q75, S76, Ng77, H78, Gf79⟩ := id V72
 have hin80 := inb_of (j := (2 : Int32)) S76 (by decide)
 obtain ⟨T81, h82, X83, e84, W85, st86⟩ := stJ X66 hx hZ e67 Ar74 (j := (2 : Int32)) hin80 (g := (mkF m 19 #[.val (.long xv), .second, .val (.int lv), .val (.int pv), .val (.int hv), .val (.int fv), .unset, .unset, .unset, .unset, .unset, .unset, .unset, .unset, .unset, .unset, .unset, .unset, .unset, .unset, .unset] [(.long (100 : Int64)), (.int (2 : Int32)), (.ref a30), (.ref a30)])) rfl rfl (hb hby at_19)
 have N87 := Fr.snoc X83 N70 G32
 have K88 : Keep h22 h82 [a30] := K71.wr W85 own_m0
 have V89 := Arv.set Ar74 q75 S76 Ng77 H78 Gf79 (v := (.long (100 : Int64))) rfl W85 2 rfl (own_lt rfl)
 have k8 : own_J p e below T81 m 20 #[.val (.long xv), .second, .val (.int lv), .val (.int pv), .val (.int hv), .val (.int fv), .unset, .unset, .unset, .unset, .unset, .unset, .unset, .unset, .unset, .unset, .unset, .unset, .unset, .unset, .unset] [(.ref a30)] B_ := fun t_ hh => k7 t_ (st86 t_ hh)
 clear k7 st86 X66 e67 cl73 Ar74 q75 S76 Ng77 H78 Gf79 hin80 W85 K71 V72 N70
 have k9 : own_J p e below T81 m 25 #[.val (.long xv), .second, .val (.int lv), .val (.int pv), .val (.int hv), .val (.int fv), .unset, .unset, .unset, .unset, .unset, .unset, .unset, .unset, .unset, .unset, .unset, .unset, .unset, .unset, .unset] [(.long (1000 : Int64)), (.int (3 : Int32)), (.ref a30), (.ref a30)] B_ := fun t_ hh => k8 t_ (by
  refine XS.dup X83.here hx rfl (hb hby at_20) rfl rfl ?_
  refine XS.iconst X83.here hx rfl (hb hby at_21) ?_
  refine X83.ldc2Long hx hown (mvT hZ (wT hw 3 rfl)) (g := (mkF m 22 #[.val (.long xv), .second, .val (.int lv), .val (.int pv), .val (.int hv), .val (.int fv), .unset, .unset, .unset, .unset, .unset, .unset, .unset, .unset, .unset, .unset, .unset, .unset, .unset, .unset, .unset] [(.int (3 : Int32)), (.ref a30), (.ref a30)])) rfl (hb hby at_22) _ ?_
  exact hh)
 clear k8
 obtain ⟨cl90, Ar91, q92, S93, Ng94, H95, Gf96⟩ := id V89
 have hin97 := inb_of (j := (3 : Int32)) S93 (by decide)
 obtain ⟨T98, h99, X100, e101, W102, st103⟩ := stJ X83 hx hZ e84 Ar91 (j := (3 : Int32)) hin97 (g := (mkF m 25 #[.val (.long xv), .second, .val (.int lv), .val (.int pv), .val (.int hv), .val (.int fv), .unset, .unset, .unset, .unset, .unset, .unset, .unset, .unset, .unset, .unset, .unset, .unset, .unset, .unset, .unset] [(.long (1000 : Int64)), (.int (3 : Int32)), (.ref a30), (.ref a30)])) rfl rfl (hb hby at_25)
 have N104 := Fr.snoc X100 N87 G32
 have K105 : Keep h22 h99 [a30] := K88.wr W102 own_m0
 have V106 := Arv.set Ar91 q92 S93 Ng94 H95 Gf96 (v := (.long (1000 : Int64))) rfl W102 3 rfl (own_lt rfl)
 have k10 : own_J p e below T98 m 26 #[.val (.long xv), .second, .val (.int lv), .val (.int pv), .val (.int hv), .val (.int fv), .unset, .unset, .unset, .unset, .unset, .unset, .unset, .unset, .unset, .unset, .unset, .unset, .unset, .unset, .unset] [(.ref a30)] B_ := fun t_ hh => k9 t_ (st103 t_ hh)
 clear k9 st103 X83 e84 cl90 Ar91 q92 S93 Ng94 H95 Gf96 hin97 W102 K88 V89 N87
 have k11 : own_J p e below T98 m 31 #[.val (.long xv), .second, .val (.int lv), .val (.int pv), .val (.int hv), .val (.int fv), .unset, .unset, .unset, .unset, .unset, .unset, .unset, .unset, .unset, .unset, .unset, .unset, .unset, .unset, .unset] [(.long (10000 : Int64)), (.int (4 : Int32)), (.ref a30), (.ref a30)] B_ := fun t_ hh => k10 t_ (by
  refine XS.dup X100.here hx rfl (hb hby at_26) rfl rfl ?_
  refine XS.iconst X100.here hx rfl (hb hby at_27) ?_
  refine X100.ldc2Long hx hown (mvT hZ (wT hw 4 rfl)) (g := (mkF m 28 #[.val (.long xv), .second, .val (.int lv), .val (.int pv), .val (.int hv), .val (.int fv), .unset, .unset, .unset, .unset, .unset, .unset, .unset, .unset, .unset, .unset, .unset, .unset, .unset, .unset, .unset] [(.int (4 : Int32)), (.ref a30), (.ref a30)])) rfl (hb hby at_28) _ ?_
  exact hh)
 clear k10
 obtain ⟨cl107, Ar108, q109, S110, Ng111, H112, Gf113⟩ := id V106
 have hin114 := inb_of (j := (4 : Int32)) S110 (by decide)
 obtain ⟨T115, h116, X117, e118, W119, st120⟩ := stJ X100 hx hZ e101 Ar108 (j := (4 : Int32)) hin114 (g := (mkF m 31 #[.val (.long xv), .second, .val (.int lv), .val (.int pv), .val (.int hv), .val (.int fv), .unset, .unset, .unset, .unset, .unset, .unset, .unset, .unset, .unset, .unset, .unset, .unset, .unset, .unset, .unset] [(.long (10000 : Int64)), (.int (4 : Int32)), (.ref a30), (.ref a30)])) rfl rfl (hb hby at_31)
 have N121 := Fr.snoc X117 N104 G32
 have K122 : Keep h22 h116 [a30] := K105.wr W119 own_m0
 have V123 := Arv.set Ar108 q109 S110 Ng111 H112 Gf113 (v := (.long (10000 : Int64))) rfl W119 4 rfl (own_lt rfl)
 have k12 : own_J p e below T115 m 32 #[.val (.long xv), .second, .val (.int lv), .val (.int pv), .val (.int hv), .val (.int fv), .unset, .unset, .unset, .unset, .unset, .unset, .unset, .unset, .unset, .unset, .unset, .unset, .unset, .unset, .unset] [(.ref a30)] B_ := fun t_ hh => k11 t_ (st120 t_ hh)
 clear k11 st120 X100 e101 cl107 Ar108 q109 S110 Ng111 H112 Gf113 hin114 W119 K105 V106 N104
 have k13 : own_J p e below T115 m 37 #[.val (.long xv), .second, .val (.int lv), .val (.int pv), .val (.int hv), .val (.int fv), .unset, .unset, .unset, .unset, .unset, .unset, .unset, .unset, .unset, .unset, .unset, .unset, .unset, .unset, .unset] [(.long (100000 : Int64)), (.int (5 : Int32)), (.ref a30), (.ref a30)] B_ := fun t_ hh => k12 t_ (by
  refine XS.dup X117.here hx rfl (hb hby at_32) rfl rfl ?_
  refine XS.iconst X117.here hx rfl (hb hby at_33) ?_
  refine X117.ldc2Long hx hown (mvT hZ (wT hw 5 rfl)) (g := (mkF m 34 #[.val (.long xv), .second, .val (.int lv), .val (.int pv), .val (.int hv), .val (.int fv), .unset, .unset, .unset, .unset, .unset, .unset, .unset, .unset, .unset, .unset, .unset, .unset, .unset, .unset, .unset] [(.int (5 : Int32)), (.ref a30), (.ref a30)])) rfl (hb hby at_34) _ ?_
  exact hh)
 clear k12
 obtain ⟨cl124, Ar125, q126, S127, Ng128, H129, Gf130⟩ := id V123
 have hin131 := inb_of (j := (5 : Int32)) S127 (by decide)
 obtain ⟨T132, h133, X134, e135, W136, st137⟩ := stJ X117 hx hZ e118 Ar125 (j := (5 : Int32)) hin131 (g := (mkF m 37 #[.val (.long xv), .second, .val (.int lv), .val (.int pv), .val (.int hv), .val (.int fv), .unset, .unset, .unset, .unset, .unset, .unset, .unset, .unset, .unset, .unset, .unset, .unset, .unset, .unset, .unset] [(.long (100000 : Int64)), (.int (5 : Int32)), (.ref a30), (.ref a30)])) rfl rfl (hb hby at_37)
 have N138 := Fr.snoc X134 N121 G32
 have K139 : Keep h22 h133 [a30] := K122.wr W136 own_m0
 have V140 := Arv.set Ar125 q126 S127 Ng128 H129 Gf130 (v := (.long (100000 : Int64))) rfl W136 5 rfl (own_lt rfl)
 have k14 : own_J p e below T132 m 38 #[.val (.long xv), .second, .val (.int lv), .val (.int pv), .val (.int hv), .val (.int fv), .unset, .unset, .unset, .unset, .unset, .unset, .unset, .unset, .unset, .unset, .unset, .unset, .unset, .unset, .unset] [(.ref a30)] B_ := fun t_ hh => k13 t_ (st137 t_ hh)
 clear k13 st137 X117 e118 cl124 Ar125 q126 S127 Ng128 H129 Gf130 hin131 W136 K122 V123 N121
 have k15 : own_J p e below T132 m 44 #[.val (.long xv), .second, .val (.int lv), .val (.int pv), .val (.int hv), .val (.int fv), .unset, .unset, .unset, .unset, .unset, .unset, .unset, .unset, .unset, .unset, .unset, .unset, .unset, .unset, .unset] [(.long (1000000 : Int64)), (.int (6 : Int32)), (.ref a30), (.ref a30)] B_ := fun t_ hh => k14 t_ (by
  refine XS.dup X134.here hx rfl (hb hby at_38) rfl rfl ?_
  refine XS.bipush X134.here hx rfl (hb hby at_39) ?_
  refine X134.ldc2Long hx hown (mvT hZ (wT hw 6 rfl)) (g := (mkF m 41 #[.val (.long xv), .second, .val (.int lv), .val (.int pv), .val (.int hv), .val (.int fv), .unset, .unset, .unset, .unset, .unset, .unset, .unset, .unset, .unset, .unset, .unset, .unset, .unset, .unset, .unset] [(.int (6 : Int32)), (.ref a30), (.ref a30)])) rfl (hb hby at_41) _ ?_
  exact hh)
 clear k14
 obtain ⟨cl141, Ar142, q143, S144, Ng145, H146, Gf147⟩ := id V140
 have hin148 := inb_of (j := (6 : Int32)) S144 (by decide)
 obtain ⟨T149, h150, X151, e152, W153, st154⟩ := stJ X134 hx hZ e135 Ar142 (j := (6 : Int32)) hin148 (g := (mkF m 44 #[.val (.long xv), .second, .val (.int lv), .val (.int pv), .val (.int hv), .val (.int fv), .unset, .unset, .unset, .unset, .unset, .unset, .unset, .unset, .unset, .unset, .unset, .unset, .unset, .unset, .unset] [(.long (1000000 : Int64)), (.int (6 : Int32)), (.ref a30), (.ref a30)])) rfl rfl (hb hby at_44)
 have N155 := Fr.snoc X151 N138 G32
 have K156 : Keep h22 h150 [a30] := K139.wr W153 own_m0
 have V157 := Arv.set Ar142 q143 S144 Ng145 H146 Gf147 (v := (.long (1000000 : Int64))) rfl W153 6 rfl (own_lt rfl)
 have k16 : own_J p e below T149 m 45 #[.val (.long xv), .second, .val (.int lv), .val (.int pv), .val (.int hv), .val (.int fv), .unset, .unset, .unset, .unset, .unset, .unset, .unset, .unset, .unset, .unset, .unset, .unset, .unset, .unset, .unset] [(.ref a30)] B_ := fun t_ hh => k15 t_ (st154 t_ hh)
 clear k15 st154 X134 e135 cl141 Ar142 q143 S144 Ng145 H146 Gf147 hin148 W153 K139 V140 N138
 have k17 : own_J p e below T149 m 51 #[.val (.long xv), .second, .val (.int lv), .val (.int pv), .val (.int hv), .val (.int fv), .unset, .unset, .unset, .unset, .unset, .unset, .unset, .unset, .unset, .unset, .unset, .unset, .unset, .unset, .unset] [(.long (10000000 : Int64)), (.int (7 : Int32)), (.ref a30), (.ref a30)] B_ := fun t_ hh => k16 t_ (by
  refine XS.dup X151.here hx rfl (hb hby at_45) rfl rfl ?_
  refine XS.bipush X151.here hx rfl (hb hby at_46) ?_
  refine X151.ldc2Long hx hown (mvT hZ (wT hw 7 rfl)) (g := (mkF m 48 #[.val (.long xv), .second, .val (.int lv), .val (.int pv), .val (.int hv), .val (.int fv), .unset, .unset, .unset, .unset, .unset, .unset, .unset, .unset, .unset, .unset, .unset, .unset, .unset, .unset, .unset] [(.int (7 : Int32)), (.ref a30), (.ref a30)])) rfl (hb hby at_48) _ ?_
  exact hh)
 clear k16
 obtain ⟨cl158, Ar159, q160, S161, Ng162, H163, Gf164⟩ := id V157
 have hin165 := inb_of (j := (7 : Int32)) S161 (by decide)
 obtain ⟨T166, h167, X168, e169, W170, st171⟩ := stJ X151 hx hZ e152 Ar159 (j := (7 : Int32)) hin165 (g := (mkF m 51 #[.val (.long xv), .second, .val (.int lv), .val (.int pv), .val (.int hv), .val (.int fv), .unset, .unset, .unset, .unset, .unset, .unset, .unset, .unset, .unset, .unset, .unset, .unset, .unset, .unset, .unset] [(.long (10000000 : Int64)), (.int (7 : Int32)), (.ref a30), (.ref a30)])) rfl rfl (hb hby at_51)
 have N172 := Fr.snoc X168 N155 G32
 have K173 : Keep h22 h167 [a30] := K156.wr W170 own_m0
 have V174 := Arv.set Ar159 q160 S161 Ng162 H163 Gf164 (v := (.long (10000000 : Int64))) rfl W170 7 rfl (own_lt rfl)
 have k18 : own_J p e below T166 m 52 #[.val (.long xv), .second, .val (.int lv), .val (.int pv), .val (.int hv), .val (.int fv), .unset, .unset, .unset, .unset, .unset, .unset, .unset, .unset, .unset, .unset, .unset, .unset, .unset, .unset, .unset] [(.ref a30)] B_ := fun t_ hh => k17 t_ (st171 t_ hh)
 clear k17 st171 X151 e152 cl158 Ar159 q160 S161 Ng162 H163 Gf164 hin165 W170 K156 V157 N155
 have k19 : own_J p e below T166 m 58 #[.val (.long xv), .second, .val (.int lv), .val (.int pv), .val (.int hv), .val (.int fv), .unset, .unset, .unset, .unset, .unset, .unset, .unset, .unset, .unset, .unset, .unset, .unset, .unset, .unset, .unset] [(.long (100000000 : Int64)), (.int (8 : Int32)), (.ref a30), (.ref a30)] B_ := fun t_ hh => k18 t_ (by
  refine XS.dup X168.here hx rfl (hb hby at_52) rfl rfl ?_
  refine XS.bipush X168.here hx rfl (hb hby at_53) ?_
  refine X168.ldc2Long hx hown (mvT hZ (wT hw 8 rfl)) (g := (mkF m 55 #[.val (.long xv), .second, .val (.int lv), .val (.int pv), .val (.int hv), .val (.int fv), .unset, .unset, .unset, .unset, .unset, .unset, .unset, .unset, .unset, .unset, .unset, .unset, .unset, .unset, .unset] [(.int (8 : Int32)), (.ref a30), (.ref a30)])) rfl (hb hby at_55) _ ?_
  exact hh)
 clear k18
 obtain ⟨cl175, Ar176, q177, S178, Ng179, H180, Gf181⟩ := id V174
 have hin182 := inb_of (j := (8 : Int32)) S178 (by decide)
 obtain ⟨T183, h184, X185, e186, W187, st188⟩ := stJ X168 hx hZ e169 Ar176 (j := (8 : Int32)) hin182 (g := (mkF m 58 #[.val (.long xv), .second, .val (.int lv), .val (.int pv), .val (.int hv), .val (.int fv), .unset, .unset, .unset, .unset, .unset, .unset, .unset, .unset, .unset, .unset, .unset, .unset, .unset, .unset, .unset] [(.long (100000000 : Int64)), (.int (8 : Int32)), (.ref a30), (.ref a30)])) rfl rfl (hb hby at_58)
 have N189 := Fr.snoc X185 N172 G32
 have K190 : Keep h22 h184 [a30] := K173.wr W187 own_m0
 have V191 := Arv.set Ar176 q177 S178 Ng179 H180 Gf181 (v := (.long (100000000 : Int64))) rfl W187 8 rfl (own_lt rfl)
 have k20 : own_J p e below T183 m 59 #[.val (.long xv), .second, .val (.int lv), .val (.int pv), .val (.int hv), .val (.int fv), .unset, .unset, .unset, .unset, .unset, .unset, .unset, .unset, .unset, .unset, .unset, .unset, .unset, .unset, .unset] [(.ref a30)] B_ := fun t_ hh => k19 t_ (st188 t_ hh)
 clear k19 st188 X168 e169 cl175 Ar176 q177 S178 Ng179 H180 Gf181 hin182 W187 K173 V174 N172
 have k21 : own_J p e below T183 m 65 #[.val (.long xv), .second, .val (.int lv), .val (.int pv), .val (.int hv), .val (.int fv), .unset, .unset, .unset, .unset, .unset, .unset, .unset, .unset, .unset, .unset, .unset, .unset, .unset, .unset, .unset] [(.long (1000000000 : Int64)), (.int (9 : Int32)), (.ref a30), (.ref a30)] B_ := fun t_ hh => k20 t_ (by
  refine XS.dup X185.here hx rfl (hb hby at_59) rfl rfl ?_
  refine XS.bipush X185.here hx rfl (hb hby at_60) ?_
  refine X185.ldc2Long hx hown (mvT hZ (wT hw 9 rfl)) (g := (mkF m 62 #[.val (.long xv), .second, .val (.int lv), .val (.int pv), .val (.int hv), .val (.int fv), .unset, .unset, .unset, .unset, .unset, .unset, .unset, .unset, .unset, .unset, .unset, .unset, .unset, .unset, .unset] [(.int (9 : Int32)), (.ref a30), (.ref a30)])) rfl (hb hby at_62) _ ?_
  exact hh)
 clear k20
 obtain ⟨cl192, Ar193, q194, S195, Ng196, H197, Gf198⟩ := id V191
 have hin199 := inb_of (j := (9 : Int32)) S195 (by decide)
 obtain ⟨T200, h201, X202, e203, W204, st205⟩ := stJ X185 hx hZ e186 Ar193 (j := (9 : Int32)) hin199 (g := (mkF m 65 #[.val (.long xv), .second, .val (.int lv), .val (.int pv), .val (.int hv), .val (.int fv), .unset, .unset, .unset, .unset, .unset, .unset, .unset, .unset, .unset, .unset, .unset, .unset, .unset, .unset, .unset] [(.long (1000000000 : Int64)), (.int (9 : Int32)), (.ref a30), (.ref a30)])) rfl rfl (hb hby at_65)
 have N206 := Fr.snoc X202 N189 G32
 have K207 : Keep h22 h201 [a30] := K190.wr W204 own_m0
 have V208 := Arv.set Ar193 q194 S195 Ng196 H197 Gf198 (v := (.long (1000000000 : Int64))) rfl W204 9 rfl (own_lt rfl)
 have k22 : own_J p e below T200 m 66 #[.val (.long xv), .second, .val (.int lv), .val (.int pv), .val (.int hv), .val (.int fv), .unset, .unset, .unset, .unset, .unset, .unset, .unset, .unset, .unset, .unset, .unset, .unset, .unset, .unset, .unset] [(.ref a30)] B_ := fun t_ hh => k21 t_ (st205 t_ hh)
 clear k21 st205 X185 e186 cl192 Ar193 q194 S195 Ng196 H197 Gf198 hin199 W204 K190 V191 N189
 have k23 : own_J p e below T200 m 72 #[.val (.long xv), .second, .val (.int lv), .val (.int pv), .val (.int hv), .val (.int fv), .unset, .unset, .unset, .unset, .unset, .unset, .unset, .unset, .unset, .unset, .unset, .unset, .unset, .unset, .unset] [(.long (10000000000 : Int64)), (.int (10 : Int32)), (.ref a30), (.ref a30)] B_ := fun t_ hh => k22 t_ (by
  refine XS.dup X202.here hx rfl (hb hby at_66) rfl rfl ?_
  refine XS.bipush X202.here hx rfl (hb hby at_67) ?_
  refine X202.ldc2Long hx hown (mvT hZ (wT hw 10 rfl)) (g := (mkF m 69 #[.val (.long xv), .second, .val (.int lv), .val (.int pv), .val (.int hv), .val (.int fv), .unset, .unset, .unset, .unset, .unset, .unset, .unset, .unset, .unset, .unset, .unset, .unset, .unset, .unset, .unset] [(.int (10 : Int32)), (.ref a30), (.ref a30)])) rfl (hb hby at_69) _ ?_
  exact hh)
 clear k22
 obtain ⟨cl209, Ar210, q211, S212, Ng213, H214, Gf215⟩ := id V208
 have hin216 := inb_of (j := (10 : Int32)) S212 (by decide)
 obtain ⟨T217, h218, X219, e220, W221, st222⟩ := stJ X202 hx hZ e203 Ar210 (j := (10 : Int32)) hin216 (g := (mkF m 72 #[.val (.long xv), .second, .val (.int lv), .val (.int pv), .val (.int hv), .val (.int fv), .unset, .unset, .unset, .unset, .unset, .unset, .unset, .unset, .unset, .unset, .unset, .unset, .unset, .unset, .unset] [(.long (10000000000 : Int64)), (.int (10 : Int32)), (.ref a30), (.ref a30)])) rfl rfl (hb hby at_72)
 have N223 := Fr.snoc X219 N206 G32
 have K224 : Keep h22 h218 [a30] := K207.wr W221 own_m0
 have V225 := Arv.set Ar210 q211 S212 Ng213 H214 Gf215 (v := (.long (10000000000 : Int64))) rfl W221 10 rfl (own_lt rfl)
 have k24 : own_J p e below T217 m 73 #[.val (.long xv), .second, .val (.int lv), .val (.int pv), .val (.int hv), .val (.int fv), .unset, .unset, .unset, .unset, .unset, .unset, .unset, .unset, .unset, .unset, .unset, .unset, .unset, .unset, .unset] [(.ref a30)] B_ := fun t_ hh => k23 t_ (st222 t_ hh)
 clear k23 st222 X202 e203 cl209 Ar210 q211 S212 Ng213 H214 Gf215 hin216 W221 K207 V208 N206
 have k25 : own_J p e below T217 m 79 #[.val (.long xv), .second, .val (.int lv), .val (.int pv), .val (.int hv), .val (.int fv), .unset, .unset, .unset, .unset, .unset, .unset, .unset, .unset, .unset, .unset, .unset, .unset, .unset, .unset, .unset] [(.long (100000000000 : Int64)), (.int (11 : Int32)), (.ref a30), (.ref a30)] B_ := fun t_ hh => k24 t_ (by
  refine XS.dup X219.here hx rfl (hb hby at_73) rfl rfl ?_
  refine XS.bipush X219.here hx rfl (hb hby at_74) ?_
  refine X219.ldc2Long hx hown (mvT hZ (wT hw 11 rfl)) (g := (mkF m 76 #[.val (.long xv), .second, .val (.int lv), .val (.int pv), .val (.int hv), .val (.int fv), .unset, .unset, .unset, .unset, .unset, .unset, .unset, .unset, .unset, .unset, .unset, .unset, .unset, .unset, .unset] [(.int (11 : Int32)), (.ref a30), (.ref a30)])) rfl (hb hby at_76) _ ?_
  exact hh)
 clear k24
 obtain ⟨cl226, Ar227, q228, S229, Ng230, H231, Gf232⟩ := id V225
 have hin233 := inb_of (j := (11 : Int32)) S229 (by decide)
 obtain ⟨T234, h235, X236, e237, W238, st239⟩ := stJ X219 hx hZ e220 Ar227 (j := (11 : Int32)) hin233 (g := (mkF m 79 #[.val (.long xv), .second, .val (.int lv), .val (.int pv), .val (.int hv), .val (.int fv), .unset, .unset, .unset, .unset, .unset, .unset, .unset, .unset, .unset, .unset, .unset, .unset, .unset, .unset, .unset] [(.long (100000000000 : Int64)), (.int (11 : Int32)), (.ref a30), (.ref a30)])) rfl rfl (hb hby at_79)
 have N240 := Fr.snoc X236 N223 G32
 have K241 : Keep h22 h235 [a30] := K224.wr W238 own_m0
 have V242 := Arv.set Ar227 q228 S229 Ng230 H231 Gf232 (v := (.long (100000000000 : Int64))) rfl W238 11 rfl (own_lt rfl)
 have k26 : own_J p e below T234 m 80 #[.val (.long xv), .second, .val (.int lv), .val (.int pv), .val (.int hv), .val (.int fv), .unset, .unset, .unset, .unset, .unset, .unset, .unset, .unset, .unset, .unset, .unset, .unset, .unset, .unset, .unset] [(.ref a30)] B_ := fun t_ hh => k25 t_ (st239 t_ hh)
 clear k25 st239 X219 e220 cl226 Ar227 q228 S229 Ng230 H231 Gf232 hin233 W238 K224 V225 N223
 have k27 : own_J p e below T234 m 86 #[.val (.long xv), .second, .val (.int lv), .val (.int pv), .val (.int hv), .val (.int fv), .val (.ref a30), .unset, .unset, .unset, .unset, .unset, .unset, .unset, .unset, .unset, .unset, .unset, .unset, .unset, .unset] [(.long (9223372036854775807 : Int64)), (.long xv)] B_ := fun t_ hh => k26 t_ (by
  refine XS.astore X236.here hx rfl (hb hby at_80) rfl rfl (l' := #[.val (.long xv), .second, .val (.int lv), .val (.int pv), .val (.int hv), .val (.int fv), .val (.ref a30), .unset, .unset, .unset, .unset, .unset, .unset, .unset, .unset, .unset, .unset, .unset, .unset, .unset, .unset]) rfl ?_
  refine XS.lloadN X236.here hx rfl (hb hby at_82) rfl ?_
  refine X236.ldc2Long hx hown (mvT hZ (wT hw 12 rfl)) (g := (mkF m 83 #[.val (.long xv), .second, .val (.int lv), .val (.int pv), .val (.int hv), .val (.int fv), .val (.ref a30), .unset, .unset, .unset, .unset, .unset, .unset, .unset, .unset, .unset, .unset, .unset, .unset, .unset, .unset] [(.long xv)])) rfl (hb hby at_83) _ ?_
  exact hh)
 clear k26
 have V243 : Arv Z h235 a30 kA23 .long (12 : Int32) [(.long (1 : Int64)), (.long (10 : Int64)), (.long (100 : Int64)), (.long (1000 : Int64)), (.long (10000 : Int64)), (.long (100000 : Int64)), (.long (1000000 : Int64)), (.long (10000000 : Int64)), (.long (100000000 : Int64)), (.long (1000000000 : Int64)), (.long (10000000000 : Int64)), (.long (100000000000 : Int64))] (.long (0 : Int64)) := V242
 have Z244 : n0 ≤ h235.size := Nat.le_trans Z35 K241.1
 have hk245 := Nat.le_trans hk33 K241.1
 have Sf246 := Safe.keep K241 (allS Sf34 all0) Cr37.1 Sf34
 have Cr247 := Cr37.trans (CHr.keep K241 (allS Sf34 all0) Cr37.1)
 have O248 := O36.keep K241 (allS G32 all0)
 have k28 : own_J p e below T234 m 89 #[.val (.long xv), .second, .val (.int lv), .val (.int pv), .val (.int hv), .val (.int fv), .val (.ref a30), .val (.long (xv &&& (9223372036854775807 : Int64))), .second, .unset, .unset, .unset, .unset, .unset, .unset, .unset, .unset, .unset, .unset, .unset, .unset] [] B_ := fun t_ hh => k27 t_ (by
  refine XS.land X236.here hx rfl (hb hby at_86) rfl ?_
  refine XS.lstore X236.here hx rfl (hb hby at_87) rfl (l' := #[.val (.long xv), .second, .val (.int lv), .val (.int pv), .val (.int hv), .val (.int fv), .val (.ref a30), .val (.long (xv &&& (9223372036854775807 : Int64))), .second, .unset, .unset, .unset, .unset, .unset, .unset, .unset, .unset, .unset, .unset, .unset, .unset]) rfl ?_
  exact hh)
 clear k27
 obtain ⟨tv, etv⟩ : ∃ z, z = (xv &&& (9223372036854775807 : Int64)) := ⟨_, rfl⟩
 have k29 : own_J p e below T234 m 89 #[.val (.long xv), .second, .val (.int lv), .val (.int pv), .val (.int hv), .val (.int fv), .val (.ref a30), .val (.long tv), .second, .unset, .unset, .unset, .unset, .unset, .unset, .unset, .unset, .unset, .unset, .unset, .unset] [] B_ := by rw [etv]; exact k28
 have ht : 0 ≤ tv.toInt := by rw [etv]; exact own_tpos xv
 have k30 : own_J p e below T234 m 107 #[.val (.long xv), .second, .val (.int lv), .val (.int pv), .val (.int hv), .val (.int fv), .val (.ref a30), .val (.long tv), .second, .val (.int ((lv &&& (2147483647 : Int32)) % (12 : Int32))), .val (.int ((pv &&& (2147483647 : Int32)) % (11 : Int32))), .unset, .unset, .unset, .unset, .unset, .unset, .unset, .unset, .unset, .unset] [] B_ := fun t_ hh => k29 t_ (by
  refine XS.iloadN X236.here hx rfl (hb hby at_89) rfl ?_
  refine X236.ldcInt hx hown (mvT hZ (wT hw 13 rfl)) (g := (mkF m 90 #[.val (.long xv), .second, .val (.int lv), .val (.int pv), .val (.int hv), .val (.int fv), .val (.ref a30), .val (.long tv), .second, .unset, .unset, .unset, .unset, .unset, .unset, .unset, .unset, .unset, .unset, .unset, .unset] [(.int lv)])) rfl (hb hby at_90) _ ?_
  refine XS.iand X236.here hx rfl (hb hby at_92) rfl ?_
  refine XS.bipush X236.here hx rfl (hb hby at_93) ?_
  refine iremM X236 hx (g := (mkF m 95 #[.val (.long xv), .second, .val (.int lv), .val (.int pv), .val (.int hv), .val (.int fv), .val (.ref a30), .val (.long tv), .second, .unset, .unset, .unset, .unset, .unset, .unset, .unset, .unset, .unset, .unset, .unset, .unset] [(.int (12 : Int32)), (.int (lv &&& (2147483647 : Int32)))])) rfl (hb hby at_95) rfl (by decide) ?_
  refine XS.istore X236.here hx rfl (hb hby at_96) rfl (l' := #[.val (.long xv), .second, .val (.int lv), .val (.int pv), .val (.int hv), .val (.int fv), .val (.ref a30), .val (.long tv), .second, .val (.int ((lv &&& (2147483647 : Int32)) % (12 : Int32))), .unset, .unset, .unset, .unset, .unset, .unset, .unset, .unset, .unset, .unset, .unset]) rfl ?_
  refine XS.iloadN X236.here hx rfl (hb hby at_98) rfl ?_
  refine X236.ldcInt hx hown (mvT hZ (wT hw 13 rfl)) (g := (mkF m 99 #[.val (.long xv), .second, .val (.int lv), .val (.int pv), .val (.int hv), .val (.int fv), .val (.ref a30), .val (.long tv), .second, .val (.int ((lv &&& (2147483647 : Int32)) % (12 : Int32))), .unset, .unset, .unset, .unset, .unset, .unset, .unset, .unset, .unset, .unset, .unset] [(.int pv)])) rfl (hb hby at_99) _ ?_
  refine XS.iand X236.here hx rfl (hb hby at_101) rfl ?_
  refine XS.bipush X236.here hx rfl (hb hby at_102) ?_
  refine iremM X236 hx (g := (mkF m 104 #[.val (.long xv), .second, .val (.int lv), .val (.int pv), .val (.int hv), .val (.int fv), .val (.ref a30), .val (.long tv), .second, .val (.int ((lv &&& (2147483647 : Int32)) % (12 : Int32))), .unset, .unset, .unset, .unset, .unset, .unset, .unset, .unset, .unset, .unset, .unset] [(.int (11 : Int32)), (.int (pv &&& (2147483647 : Int32)))])) rfl (hb hby at_104) rfl (by decide) ?_
  refine XS.istore X236.here hx rfl (hb hby at_105) rfl (l' := #[.val (.long xv), .second, .val (.int lv), .val (.int pv), .val (.int hv), .val (.int fv), .val (.ref a30), .val (.long tv), .second, .val (.int ((lv &&& (2147483647 : Int32)) % (12 : Int32))), .val (.int ((pv &&& (2147483647 : Int32)) % (11 : Int32))), .unset, .unset, .unset, .unset, .unset, .unset, .unset, .unset, .unset, .unset]) rfl ?_
  show Steps p.tables e below (T234.setTop (mkF m 107 #[.val (.long xv), .second, .val (.int lv), .val (.int pv), .val (.int hv), .val (.int fv), .val (.ref a30), .val (.long tv), .second, .val (.int ((lv &&& (2147483647 : Int32)) % (12 : Int32))), .val (.int ((pv &&& (2147483647 : Int32)) % (11 : Int32))), .unset, .unset, .unset, .unset, .unset, .unset, .unset, .unset, .unset, .unset] [])) _
  exact hh)
 clear k29
 obtain ⟨nN, enN⟩ : ∃ z, z = ((lv &&& (2147483647 : Int32)) % (12 : Int32)) := ⟨_, rfl⟩
 have k31 : own_J p e below T234 m 107 #[.val (.long xv), .second, .val (.int lv), .val (.int pv), .val (.int hv), .val (.int fv), .val (.ref a30), .val (.long tv), .second, .val (.int nN), .val (.int ((pv &&& (2147483647 : Int32)) % (11 : Int32))), .unset, .unset, .unset, .unset, .unset, .unset, .unset, .unset, .unset, .unset] [] B_ := by rw [enN]; exact k30
 obtain ⟨pP, epP⟩ : ∃ z, z = ((pv &&& (2147483647 : Int32)) % (11 : Int32)) := ⟨_, rfl⟩
 have k32 : own_J p e below T234 m 107 #[.val (.long xv), .second, .val (.int lv), .val (.int pv), .val (.int hv), .val (.int fv), .val (.ref a30), .val (.long tv), .second, .val (.int nN), .val (.int pP), .unset, .unset, .unset, .unset, .unset, .unset, .unset, .unset, .unset, .unset] [] B_ := by rw [epP]; exact k31
 have hn : 0 ≤ nN.toInt ∧ nN.toInt ≤ 11 := by rw [enN]; exact own_n12 lv
 have hp : 0 ≤ pP.toInt ∧ pP.toInt ≤ 10 := by rw [epP]; exact own_p11 pv
 obtain ⟨cc, hM249, k33⟩ : ∃ cc : Int32, (0 ≤ cc.toInt ∧ cc.toInt < 65536) ∧ own_J p e below T234 m 130 #[.val (.long xv), .second, .val (.int lv), .val (.int pv), .val (.int hv), .val (.int fv), .val (.ref a30), .val (.long tv), .second, .val (.int nN), .val (.int pP), .unset, .unset, .unset, .unset, .unset, .unset, .unset, .unset, .unset, .unset] [(.int cc)] B_ := by
  have k34 : own_J p e below T234 m 111 #[.val (.long xv), .second, .val (.int lv), .val (.int pv), .val (.int hv), .val (.int fv), .val (.ref a30), .val (.long tv), .second, .val (.int nN), .val (.int pP), .unset, .unset, .unset, .unset, .unset, .unset, .unset, .unset, .unset, .unset] [(.int (fv &&& (2 : Int32)))] B_ := fun t_ hh => k32 t_ (by
   refine XS.iload X236.here hx rfl (hb hby at_107) rfl ?_
   refine XS.iconst X236.here hx rfl (hb hby at_109) ?_
   refine XS.iand X236.here hx rfl (hb hby at_110) rfl ?_
   exact hh)
  clear k32
  by_cases c111 : (fv &&& (2 : Int32)) = 0
  ·
   have k35 : own_J p e below T234 m 130 #[.val (.long xv), .second, .val (.int lv), .val (.int pv), .val (.int hv), .val (.int fv), .val (.ref a30), .val (.long tv), .second, .val (.int nN), .val (.int pP), .unset, .unset, .unset, .unset, .unset, .unset, .unset, .unset, .unset, .unset] [(.int ((hv &&& (255 : Int32)).toUInt32.toUInt16.toUInt32.toInt32))] B_ := fun t_ hh => k34 t_ (by
    refine XS.ifNo X236.here hx rfl (hb hby at_111) rfl (own_ifF_ne c111) ?_
    refine XS.iload X236.here hx rfl (hb hby at_114) rfl ?_
    refine XS.sipush X236.here hx rfl (hb hby at_116) ?_
    refine XS.iand X236.here hx rfl (hb hby at_119) rfl ?_
    refine XS.i2c X236.here hx rfl (hb hby at_120) rfl ?_
    refine XS.goto X236.here hx rfl (pc0 := 121) (pc' := 130) rfl (hb hby at_121) (by decide) (by decide) ?_
    exact hh)
   clear k34
   exact ⟨((hv &&& (255 : Int32)).toUInt32.toUInt16.toUInt32.toInt32), (own_ccr _), k35⟩
  ·
   have k36 : own_J p e below T234 m 130 #[.val (.long xv), .second, .val (.int lv), .val (.int pv), .val (.int hv), .val (.int fv), .val (.ref a30), .val (.long tv), .second, .val (.int nN), .val (.int pP), .unset, .unset, .unset, .unset, .unset, .unset, .unset, .unset, .unset, .unset] [(.int ((hv &&& (65535 : Int32)).toUInt32.toUInt16.toUInt32.toInt32))] B_ := fun t_ hh => k34 t_ (by
    refine XS.ifYes X236.here hx rfl (pc0 := 111) (pc' := 124) rfl (hb hby at_111) rfl (own_ifT_ne c111) (by decide) (by decide) ?_
    refine XS.iload X236.here hx rfl (hb hby at_124) rfl ?_
    refine X236.ldcInt hx hown (mvT hZ (wT hw 14 rfl)) (g := (mkF m 126 #[.val (.long xv), .second, .val (.int lv), .val (.int pv), .val (.int hv), .val (.int fv), .val (.ref a30), .val (.long tv), .second, .val (.int nN), .val (.int pP), .unset, .unset, .unset, .unset, .unset, .unset, .unset, .unset, .unset, .unset] [(.int hv)])) rfl (hb hby at_126) _ ?_
    refine XS.iand X236.here hx rfl (hb hby at_128) rfl ?_
    refine XS.i2c X236.here hx rfl (hb hby at_129) rfl ?_
    exact hh)
   clear k34
   exact ⟨((hv &&& (65535 : Int32)).toUInt32.toUInt16.toUInt32.toInt32), (own_ccr _), k36⟩
 have hcc := hM249
 have k37 : own_J p e below T234 m 132 #[.val (.long xv), .second, .val (.int lv), .val (.int pv), .val (.int hv), .val (.int fv), .val (.ref a30), .val (.long tv), .second, .val (.int nN), .val (.int pP), .val (.int cc), .unset, .unset, .unset, .unset, .unset, .unset, .unset, .unset, .unset] [] B_ := fun t_ hh => k33 t_ (by
  refine XS.istore X236.here hx rfl (hb hby at_130) rfl (l' := #[.val (.long xv), .second, .val (.int lv), .val (.int pv), .val (.int hv), .val (.int fv), .val (.ref a30), .val (.long tv), .second, .val (.int nN), .val (.int pP), .val (.int cc), .unset, .unset, .unset, .unset, .unset, .unset, .unset, .unset, .unset]) rfl ?_
  exact hh)
 clear k33
 obtain ⟨rp, hM250, k38⟩ : ∃ rp : Int32, (rp = 0 ∨ (rp = 1 ∧ pP < nN)) ∧ own_J p e below T234 m 151 #[.val (.long xv), .second, .val (.int lv), .val (.int pv), .val (.int hv), .val (.int fv), .val (.ref a30), .val (.long tv), .second, .val (.int nN), .val (.int pP), .val (.int cc), .unset, .unset, .unset, .unset, .unset, .unset, .unset, .unset, .unset] [(.int rp)] B_ := by
  have k39 : own_J p e below T234 m 136 #[.val (.long xv), .second, .val (.int lv), .val (.int pv), .val (.int hv), .val (.int fv), .val (.ref a30), .val (.long tv), .second, .val (.int nN), .val (.int pP), .val (.int cc), .unset, .unset, .unset, .unset, .unset, .unset, .unset, .unset, .unset] [(.int (fv &&& (1 : Int32)))] B_ := fun t_ hh => k37 t_ (by
   refine XS.iload X236.here hx rfl (hb hby at_132) rfl ?_
   refine XS.iconst X236.here hx rfl (hb hby at_134) ?_
   refine XS.iand X236.here hx rfl (hb hby at_135) rfl ?_
   exact hh)
  clear k37
  by_cases c136 : (fv &&& (1 : Int32)) = 0
  ·
   have k40 : own_J p e below T234 m 151 #[.val (.long xv), .second, .val (.int lv), .val (.int pv), .val (.int hv), .val (.int fv), .val (.ref a30), .val (.long tv), .second, .val (.int nN), .val (.int pP), .val (.int cc), .unset, .unset, .unset, .unset, .unset, .unset, .unset, .unset, .unset] [(.int (0 : Int32))] B_ := fun t_ hh => k39 t_ (by
    refine XS.ifYes X236.here hx rfl (pc0 := 136) (pc' := 150) rfl (hb hby at_136) rfl (own_ifT_eq c136) (by decide) (by decide) ?_
    refine XS.iconst X236.here hx rfl (hb hby at_150) ?_
    exact hh)
   clear k39
   exact ⟨(0 : Int32), (Or.inl rfl), k40⟩
  ·
   have k41 : own_J p e below T234 m 143 #[.val (.long xv), .second, .val (.int lv), .val (.int pv), .val (.int hv), .val (.int fv), .val (.ref a30), .val (.long tv), .second, .val (.int nN), .val (.int pP), .val (.int cc), .unset, .unset, .unset, .unset, .unset, .unset, .unset, .unset, .unset] [(.int nN), (.int pP)] B_ := fun t_ hh => k39 t_ (by
    refine XS.ifNo X236.here hx rfl (hb hby at_136) rfl (own_ifF_eq c136) ?_
    refine XS.iload X236.here hx rfl (hb hby at_139) rfl ?_
    refine XS.iload X236.here hx rfl (hb hby at_141) rfl ?_
    exact hh)
   clear k39
   by_cases c143 : pP < nN
   ·
    have k42 : own_J p e below T234 m 151 #[.val (.long xv), .second, .val (.int lv), .val (.int pv), .val (.int hv), .val (.int fv), .val (.ref a30), .val (.long tv), .second, .val (.int nN), .val (.int pP), .val (.int cc), .unset, .unset, .unset, .unset, .unset, .unset, .unset, .unset, .unset] [(.int (1 : Int32))] B_ := fun t_ hh => k41 t_ (by
     refine XS.icmpNo X236.here hx rfl (hb hby at_143) rfl (own_icF_ge c143) ?_
     refine XS.iconst X236.here hx rfl (hb hby at_146) ?_
     refine XS.goto X236.here hx rfl (pc0 := 147) (pc' := 151) rfl (hb hby at_147) (by decide) (by decide) ?_
     exact hh)
    clear k41
    exact ⟨(1 : Int32), (Or.inr ⟨rfl, c143⟩), k42⟩
   ·
    have k43 : own_J p e below T234 m 151 #[.val (.long xv), .second, .val (.int lv), .val (.int pv), .val (.int hv), .val (.int fv), .val (.ref a30), .val (.long tv), .second, .val (.int nN), .val (.int pP), .val (.int cc), .unset, .unset, .unset, .unset, .unset, .unset, .unset, .unset, .unset] [(.int (0 : Int32))] B_ := fun t_ hh => k41 t_ (by
     refine XS.icmpYes X236.here hx rfl (pc0 := 143) (pc' := 150) rfl (hb hby at_143) rfl (own_icT_ge c143) (by decide) (by decide) ?_
     refine XS.iconst X236.here hx rfl (hb hby at_150) ?_
     exact hh)
    clear k41
    exact ⟨(0 : Int32), (Or.inl rfl), k43⟩
 have hrp := hM250
 have k44 : own_J p e below T234 m 155 #[.val (.long xv), .second, .val (.int lv), .val (.int pv), .val (.int hv), .val (.int fv), .val (.ref a30), .val (.long tv), .second, .val (.int nN), .val (.int pP), .val (.int cc), .val (.int rp), .unset, .unset, .unset, .unset, .unset, .unset, .unset, .unset] [(.int (11 : Int32))] B_ := fun t_ hh => k38 t_ (by
  refine XS.istore X236.here hx rfl (hb hby at_151) rfl (l' := #[.val (.long xv), .second, .val (.int lv), .val (.int pv), .val (.int hv), .val (.int fv), .val (.ref a30), .val (.long tv), .second, .val (.int nN), .val (.int pP), .val (.int cc), .val (.int rp), .unset, .unset, .unset, .unset, .unset, .unset, .unset, .unset]) rfl ?_
  refine XS.bipush X236.here hx rfl (hb hby at_153) ?_
  exact hh)
 clear k38
 obtain ⟨T251, h252, kA253, X254, e255, E256, A257, st259⟩ := newP X236 hx hZ (wT hw 15 rfl) e237 (g := (mkF m 155 #[.val (.long xv), .second, .val (.int lv), .val (.int pv), .val (.int hv), .val (.int fv), .val (.ref a30), .val (.long tv), .second, .val (.int nN), .val (.int pP), .val (.int cc), .val (.int rp), .unset, .unset, .unset, .unset, .unset, .unset, .unset, .unset] [(.int (11 : Int32))])) rfl (hb hby at_155) rfl (by decide) (cap := 11) (by decide) (by decide) (by decide) (by decide)
 obtain ⟨a260, g261⟩ : ∃ z, z = h235.size := ⟨_, rfl⟩
 rw [← g261] at A257 st259
 have G262 : n0 ≤ a260 := Nat.le_trans Z244 (Nat.le_of_eq g261.symm)
 have hk263 := Nat.le_trans hk245 E256.1
 have Sf264 := Safe.ext E256 Cr247.1 (Safe.new (x := a260) (Nat.le_of_eq g261.symm))
 have F265 := V243.ext E256
 have Z266 : n0 ≤ h252.size := Nat.le_trans Z244 E256.1
 have O267 := O248.ext E256
 have Sf268 := Safe.ext E256 Cr247.1 Sf246
 have Cr269 := Cr247.trans (CHr.ext E256 Cr247.1)
 have V270 : Arv Z h252 a260 kA253 .char (11 : Int32) [(.int (0 : Int32)), (.int (0 : Int32)), (.int (0 : Int32)), (.int (0 : Int32)), (.int (0 : Int32)), (.int (0 : Int32)), (.int (0 : Int32)), (.int (0 : Int32)), (.int (0 : Int32)), (.int (0 : Int32)), (.int (0 : Int32))] (.int (0 : Int32)) := Arv.pad (Arv.new A257 (by decide)) (pad_rep [] (.int (0 : Int32)) 11)
 have k45 : own_J p e below T251 m 157 #[.val (.long xv), .second, .val (.int lv), .val (.int pv), .val (.int hv), .val (.int fv), .val (.ref a30), .val (.long tv), .second, .val (.int nN), .val (.int pP), .val (.int cc), .val (.int rp), .unset, .unset, .unset, .unset, .unset, .unset, .unset, .unset] [(.ref a260)] B_ := fun t_ hh => k44 t_ (st259 t_ hh)
 clear k44 st259 X236 e237
 have k46 : own_J p e below T251 m 169 #[.val (.long xv), .second, .val (.int lv), .val (.int pv), .val (.int hv), .val (.int fv), .val (.ref a30), .val (.long tv), .second, .val (.int nN), .val (.int pP), .val (.int cc), .val (.int rp), .val (.ref a260), .unset, .unset, .unset, .unset, .unset, .unset, .unset] [(.long (10000000000 : Int64)), (.long tv), (.int (0 : Int32)), (.ref a260)] B_ := fun t_ hh => k45 t_ (by
  refine XS.astore X254.here hx rfl (hb hby at_157) rfl rfl (l' := #[.val (.long xv), .second, .val (.int lv), .val (.int pv), .val (.int hv), .val (.int fv), .val (.ref a30), .val (.long tv), .second, .val (.int nN), .val (.int pP), .val (.int cc), .val (.int rp), .val (.ref a260), .unset, .unset, .unset, .unset, .unset, .unset, .unset]) rfl ?_
  refine XS.aload X254.here hx rfl (hb hby at_159) rfl rfl ?_
  refine XS.iconst X254.here hx rfl (hb hby at_161) ?_
  refine XS.lload X254.here hx rfl (hb hby at_162) rfl ?_
  refine XS.aload X254.here hx rfl (hb hby at_164) rfl rfl ?_
  refine XS.bipush X254.here hx rfl (hb hby at_166) ?_
  refine own_laload X254 hx hZ e255 F265 (j := (10 : Int32)) (v := (.long (10000000000 : Int64))) (by decide) rfl (g := (mkF m 168 #[.val (.long xv), .second, .val (.int lv), .val (.int pv), .val (.int hv), .val (.int fv), .val (.ref a30), .val (.long tv), .second, .val (.int nN), .val (.int pP), .val (.int cc), .val (.int rp), .val (.ref a260), .unset, .unset, .unset, .unset, .unset, .unset, .unset] [(.int (10 : Int32)), (.ref a30), (.long tv), (.int (0 : Int32)), (.ref a260)])) rfl rfl (hb hby at_168) _ ?_
  exact hh)
 clear k45
 obtain ⟨_, _, ⟨T271, L272, k_273, n_274⟩, -, X275, ⟨Lc276, hQ277, l_278, y_279, z_280⟩, st281⟩ := Jvm.LawKit.callS X254 hx (y := (⟨"com/example/commitlog/commitlog/ConsumeQueuesQueueIdOfPinLaw", "digit", "(JJ)C"⟩ : MethodName)) hown (mvT hZ (wT hw 16 rfl)) (mvT hZ (wT hw 17 rfl)) (mvT hZ (wT hw 18 rfl)) (mvT hZ (wT hw 19 rfl)) (by decide) (backOf (W := 2) (rmDg l Z a0 hw [] tv (10000000000 : Int64) h252 n0 Z266 ht (by decide) (by decide) (by decide) ) hZ (wT hw 19 rfl) (wT hw 18 rfl) (by decide) (by decide)) (g := (mkF m 169 #[.val (.long xv), .second, .val (.int lv), .val (.int pv), .val (.int hv), .val (.int fv), .val (.ref a30), .val (.long tv), .second, .val (.int nN), .val (.int pP), .val (.int cc), .val (.int rp), .val (.ref a260), .unset, .unset, .unset, .unset, .unset, .unset, .unset] [(.long (10000000000 : Int64)), (.long tv), (.int (0 : Int32)), (.ref a260)])) rfl (by rw [hml]; rfl) (argsL := [(.long tv), (.long (10000000000 : Int64))]) (rest := [(.int (0 : Int32)), (.ref a260)]) (lenOf own_h821 rfl) rfl (by show 2 * 0 + _ ≤ _; exact Nat.le_of_eq rfl) (hb hby at_169) (fun _ _ => ⟨rfl, e255, own_l rfl, own_l rfl⟩)
 dsimp only [Pt.U, Pt.locs, Pt.cells, Pt.slots] at X275 l_278 y_279 z_280 st281 hQ277
 replace l_278 := l_278.symm
 subst l_278 y_279 z_280
 obtain ⟨dg283, rfl, N282, K285, F284, -⟩ := hQ277
 have N286 := Fr.app N240 N282
 have F287 := F265.keep K285 nin0
 have F288 := V270.keep K285 nin0
 have Z289 : n0 ≤ T271.heap.size := Nat.le_trans Z266 K285.1
 have hk290 := Nat.le_trans hk263 K285.1
 have Sf291 := Safe.keep K285 all0 Cr269.1 Sf268
 have Sf292 := Safe.keep K285 all0 Cr269.1 Sf264
 have Cr293 := Cr269.trans (CHr.keep K285 all0 Cr269.1)
 have O294 := O267.keep K285 all0
 have e295 : T271.heap = T271.heap := rfl
 have k47 : own_J p e below T271 m 172 #[.val (.long xv), .second, .val (.int lv), .val (.int pv), .val (.int hv), .val (.int fv), .val (.ref a30), .val (.long tv), .second, .val (.int nN), .val (.int pP), .val (.int cc), .val (.int rp), .val (.ref a260), .unset, .unset, .unset, .unset, .unset, .unset, .unset] [(.int dg283), (.int (0 : Int32)), (.ref a260)] B_ := fun t_ hh => k46 t_ (st281 t_ hh)
 clear k46 st281 X254 e255
 obtain ⟨cl296, Ar297, q298, S299, Ng300, H301, Gf302⟩ := id F288
 have hin303 := inb_of (j := (0 : Int32)) S299 (by decide)
 obtain ⟨T304, h305, X306, e307, W308, st309⟩ := stC X275 hx hZ e295 Ar297 (j := (0 : Int32)) hin303 (g := (mkF m 172 #[.val (.long xv), .second, .val (.int lv), .val (.int pv), .val (.int hv), .val (.int fv), .val (.ref a30), .val (.long tv), .second, .val (.int nN), .val (.int pP), .val (.int cc), .val (.int rp), .val (.ref a260), .unset, .unset, .unset, .unset, .unset, .unset, .unset] [(.int dg283), (.int (0 : Int32)), (.ref a260)])) rfl rfl (hb hby at_172)
 have N310 := Fr.snoc X306 N286 G262
 have K311 : Keep T271.heap h305 [a260] := Keep.of_wr W308
 have V312 := Arv.set Ar297 q298 S299 Ng300 H301 Gf302 (v := (.int (nar .char dg283))) (fits_nar_char _) W308 0 rfl (own_lt rfl)
 have k48 : own_J p e below T304 m 173 #[.val (.long xv), .second, .val (.int lv), .val (.int pv), .val (.int hv), .val (.int fv), .val (.ref a30), .val (.long tv), .second, .val (.int nN), .val (.int pP), .val (.int cc), .val (.int rp), .val (.ref a260), .unset, .unset, .unset, .unset, .unset, .unset, .unset] [] B_ := fun t_ hh => k47 t_ (st309 t_ hh)
 clear k47 st309 X275 e295 cl296 Ar297 q298 S299 Ng300 H301 Gf302 hin303 W308 N286
 have ne313 : a30 ≠ a260 := by rw [g261]; exact Nat.ne_of_lt V243.lt
 have k49 : own_J p e below T304 m 183 #[.val (.long xv), .second, .val (.int lv), .val (.int pv), .val (.int hv), .val (.int fv), .val (.ref a30), .val (.long tv), .second, .val (.int nN), .val (.int pP), .val (.int cc), .val (.int rp), .val (.ref a260), .unset, .unset, .unset, .unset, .unset, .unset, .unset] [(.long (1000000000 : Int64)), (.long tv), (.int (1 : Int32)), (.ref a260)] B_ := fun t_ hh => k48 t_ (by
  refine XS.aload X306.here hx rfl (hb hby at_173) rfl rfl ?_
  refine XS.iconst X306.here hx rfl (hb hby at_175) ?_
  refine XS.lload X306.here hx rfl (hb hby at_176) rfl ?_
  refine XS.aload X306.here hx rfl (hb hby at_178) rfl rfl ?_
  refine XS.bipush X306.here hx rfl (hb hby at_180) ?_
  refine own_laload X306 hx hZ e307 (Arv.keep F287 K311 (ninS ne313 nin0)) (j := (9 : Int32)) (v := (.long (1000000000 : Int64))) (by decide) rfl (g := (mkF m 182 #[.val (.long xv), .second, .val (.int lv), .val (.int pv), .val (.int hv), .val (.int fv), .val (.ref a30), .val (.long tv), .second, .val (.int nN), .val (.int pP), .val (.int cc), .val (.int rp), .val (.ref a260), .unset, .unset, .unset, .unset, .unset, .unset, .unset] [(.int (9 : Int32)), (.ref a30), (.long tv), (.int (1 : Int32)), (.ref a260)])) rfl rfl (hb hby at_182) _ ?_
  exact hh)
 clear k48
 have V314 : Arv Z h305 a260 kA253 .char (11 : Int32) [(.int (nar .char dg283)), (.int (0 : Int32)), (.int (0 : Int32)), (.int (0 : Int32)), (.int (0 : Int32)), (.int (0 : Int32)), (.int (0 : Int32)), (.int (0 : Int32)), (.int (0 : Int32)), (.int (0 : Int32)), (.int (0 : Int32))] (.int (0 : Int32)) := V312
 have F315 := F287.keep K311 (ninS ne313 nin0)
 have Z316 : n0 ≤ h305.size := Nat.le_trans Z289 K311.1
 have hk317 := Nat.le_trans hk290 K311.1
 have Sf318 := Safe.keep K311 (allS Sf292 all0) Cr293.1 Sf291
 have Sf319 := Safe.keep K311 (allS Sf292 all0) Cr293.1 Sf292
 have Cr320 := Cr293.trans (CHr.keep K311 (allS Sf292 all0) Cr293.1)
 have O321 := O294.keep K311 (allS G262 all0)
 obtain ⟨_, _, ⟨T322, L323, k_324, n_325⟩, -, X326, ⟨Lc327, hQ328, l_329, y_330, z_331⟩, st332⟩ := Jvm.LawKit.callS X306 hx (y := (⟨"com/example/commitlog/commitlog/ConsumeQueuesQueueIdOfPinLaw", "digit", "(JJ)C"⟩ : MethodName)) hown (mvT hZ (wT hw 16 rfl)) (mvT hZ (wT hw 17 rfl)) (mvT hZ (wT hw 18 rfl)) (mvT hZ (wT hw 19 rfl)) (by decide) (backOf (W := 2) (rmDg l Z a0 hw [] tv (1000000000 : Int64) h305 n0 Z316 ht (by decide) (by decide) (by decide) ) hZ (wT hw 19 rfl) (wT hw 18 rfl) (by decide) (by decide)) (g := (mkF m 183 #[.val (.long xv), .second, .val (.int lv), .val (.int pv), .val (.int hv), .val (.int fv), .val (.ref a30), .val (.long tv), .second, .val (.int nN), .val (.int pP), .val (.int cc), .val (.int rp), .val (.ref a260), .unset, .unset, .unset, .unset, .unset, .unset, .unset] [(.long (1000000000 : Int64)), (.long tv), (.int (1 : Int32)), (.ref a260)])) rfl (by rw [hml]; rfl) (argsL := [(.long tv), (.long (1000000000 : Int64))]) (rest := [(.int (1 : Int32)), (.ref a260)]) (lenOf own_h821 rfl) rfl (by show 2 * 0 + _ ≤ _; exact Nat.le_of_eq rfl) (hb hby at_183) (fun _ _ => ⟨rfl, e307, own_l rfl, own_l rfl⟩)
 dsimp only [Pt.U, Pt.locs, Pt.cells, Pt.slots] at X326 l_329 y_330 z_331 st332 hQ328
 replace l_329 := l_329.symm
 subst l_329 y_330 z_331
 obtain ⟨dg334, rfl, N333, K336, F335, -⟩ := hQ328
 have N337 := Fr.app N310 N333
 have F338 := F315.keep K336 nin0
 have F339 := V314.keep K336 nin0
 have Z340 : n0 ≤ T322.heap.size := Nat.le_trans Z316 K336.1
 have hk341 := Nat.le_trans hk317 K336.1
 have Sf342 := Safe.keep K336 all0 Cr320.1 Sf318
 have Sf343 := Safe.keep K336 all0 Cr320.1 Sf319
 have Cr344 := Cr320.trans (CHr.keep K336 all0 Cr320.1)
 have O345 := O321.keep K336 all0
 have e346 : T322.heap = T322.heap := rfl
 have k50 : own_J p e below T322 m 186 #[.val (.long xv), .second, .val (.int lv), .val (.int pv), .val (.int hv), .val (.int fv), .val (.ref a30), .val (.long tv), .second, .val (.int nN), .val (.int pP), .val (.int cc), .val (.int rp), .val (.ref a260), .unset, .unset, .unset, .unset, .unset, .unset, .unset] [(.int dg334), (.int (1 : Int32)), (.ref a260)] B_ := fun t_ hh => k49 t_ (st332 t_ hh)
 clear k49 st332 X306 e307
 obtain ⟨cl347, Ar348, q349, S350, Ng351, H352, Gf353⟩ := id F339
 have hin354 := inb_of (j := (1 : Int32)) S350 (by decide)
 obtain ⟨T355, h356, X357, e358, W359, st360⟩ := stC X326 hx hZ e346 Ar348 (j := (1 : Int32)) hin354 (g := (mkF m 186 #[.val (.long xv), .second, .val (.int lv), .val (.int pv), .val (.int hv), .val (.int fv), .val (.ref a30), .val (.long tv), .second, .val (.int nN), .val (.int pP), .val (.int cc), .val (.int rp), .val (.ref a260), .unset, .unset, .unset, .unset, .unset, .unset, .unset] [(.int dg334), (.int (1 : Int32)), (.ref a260)])) rfl rfl (hb hby at_186)
 have N361 := Fr.snoc X357 N337 G262
 have K362 : Keep T322.heap h356 [a260] := Keep.of_wr W359
 have V363 := Arv.set Ar348 q349 S350 Ng351 H352 Gf353 (v := (.int (nar .char dg334))) (fits_nar_char _) W359 1 rfl (own_lt rfl)
 have k51 : own_J p e below T355 m 187 #[.val (.long xv), .second, .val (.int lv), .val (.int pv), .val (.int hv), .val (.int fv), .val (.ref a30), .val (.long tv), .second, .val (.int nN), .val (.int pP), .val (.int cc), .val (.int rp), .val (.ref a260), .unset, .unset, .unset, .unset, .unset, .unset, .unset] [] B_ := fun t_ hh => k50 t_ (st360 t_ hh)
 clear k50 st360 X326 e346 cl347 Ar348 q349 S350 Ng351 H352 Gf353 hin354 W359 N337
 have k52 : own_J p e below T355 m 197 #[.val (.long xv), .second, .val (.int lv), .val (.int pv), .val (.int hv), .val (.int fv), .val (.ref a30), .val (.long tv), .second, .val (.int nN), .val (.int pP), .val (.int cc), .val (.int rp), .val (.ref a260), .unset, .unset, .unset, .unset, .unset, .unset, .unset] [(.long (100000000 : Int64)), (.long tv), (.int (2 : Int32)), (.ref a260)] B_ := fun t_ hh => k51 t_ (by
  refine XS.aload X357.here hx rfl (hb hby at_187) rfl rfl ?_
  refine XS.iconst X357.here hx rfl (hb hby at_189) ?_
  refine XS.lload X357.here hx rfl (hb hby at_190) rfl ?_
  refine XS.aload X357.here hx rfl (hb hby at_192) rfl rfl ?_
  refine XS.bipush X357.here hx rfl (hb hby at_194) ?_
  refine own_laload X357 hx hZ e358 (Arv.keep F338 K362 (ninS ne313 nin0)) (j := (8 : Int32)) (v := (.long (100000000 : Int64))) (by decide) rfl (g := (mkF m 196 #[.val (.long xv), .second, .val (.int lv), .val (.int pv), .val (.int hv), .val (.int fv), .val (.ref a30), .val (.long tv), .second, .val (.int nN), .val (.int pP), .val (.int cc), .val (.int rp), .val (.ref a260), .unset, .unset, .unset, .unset, .unset, .unset, .unset] [(.int (8 : Int32)), (.ref a30), (.long tv), (.int (2 : Int32)), (.ref a260)])) rfl rfl (hb hby at_196) _ ?_
  exact hh)
 clear k51
 have V364 : Arv Z h356 a260 kA253 .char (11 : Int32) [(.int (nar .char dg283)), (.int (nar .char dg334)), (.int (0 : Int32)), (.int (0 : Int32)), (.int (0 : Int32)), (.int (0 : Int32)), (.int (0 : Int32)), (.int (0 : Int32)), (.int (0 : Int32)), (.int (0 : Int32)), (.int (0 : Int32))] (.int (0 : Int32)) := V363
 have F365 := F338.keep K362 (ninS ne313 nin0)
 have Z366 : n0 ≤ h356.size := Nat.le_trans Z340 K362.1
 have hk367 := Nat.le_trans hk341 K362.1
 have Sf368 := Safe.keep K362 (allS Sf343 all0) Cr344.1 Sf342
 have Sf369 := Safe.keep K362 (allS Sf343 all0) Cr344.1 Sf343
 have Cr370 := Cr344.trans (CHr.keep K362 (allS Sf343 all0) Cr344.1)
 have O371 := O345.keep K362 (allS G262 all0)
 obtain ⟨_, _, ⟨T372, L373, k_374, n_375⟩, -, X376, ⟨Lc377, hQ378, l_379, y_380, z_381⟩, st382⟩ := Jvm.LawKit.callS X357 hx (y := (⟨"com/example/commitlog/commitlog/ConsumeQueuesQueueIdOfPinLaw", "digit", "(JJ)C"⟩ : MethodName)) hown (mvT hZ (wT hw 16 rfl)) (mvT hZ (wT hw 17 rfl)) (mvT hZ (wT hw 18 rfl)) (mvT hZ (wT hw 19 rfl)) (by decide) (backOf (W := 2) (rmDg l Z a0 hw [] tv (100000000 : Int64) h356 n0 Z366 ht (by decide) (by decide) (by decide) ) hZ (wT hw 19 rfl) (wT hw 18 rfl) (by decide) (by decide)) (g := (mkF m 197 #[.val (.long xv), .second, .val (.int lv), .val (.int pv), .val (.int hv), .val (.int fv), .val (.ref a30), .val (.long tv), .second, .val (.int nN), .val (.int pP), .val (.int cc), .val (.int rp), .val (.ref a260), .unset, .unset, .unset, .unset, .unset, .unset, .unset] [(.long (100000000 : Int64)), (.long tv), (.int (2 : Int32)), (.ref a260)])) rfl (by rw [hml]; rfl) (argsL := [(.long tv), (.long (100000000 : Int64))]) (rest := [(.int (2 : Int32)), (.ref a260)]) (lenOf own_h821 rfl) rfl (by show 2 * 0 + _ ≤ _; exact Nat.le_of_eq rfl) (hb hby at_197) (fun _ _ => ⟨rfl, e358, own_l rfl, own_l rfl⟩)
 dsimp only [Pt.U, Pt.locs, Pt.cells, Pt.slots] at X376 l_379 y_380 z_381 st382 hQ378
 replace l_379 := l_379.symm
 subst l_379 y_380 z_381
 obtain ⟨dg384, rfl, N383, K386, F385, -⟩ := hQ378
 have N387 := Fr.app N361 N383
 have F388 := F365.keep K386 nin0
 have F389 := V364.keep K386 nin0
 have Z390 : n0 ≤ T372.heap.size := Nat.le_trans Z366 K386.1
 have hk391 := Nat.le_trans hk367 K386.1
 have Sf392 := Safe.keep K386 all0 Cr370.1 Sf368
 have Sf393 := Safe.keep K386 all0 Cr370.1 Sf369
 have Cr394 := Cr370.trans (CHr.keep K386 all0 Cr370.1)
 have O395 := O371.keep K386 all0
 have e396 : T372.heap = T372.heap := rfl
 have k53 : own_J p e below T372 m 200 #[.val (.long xv), .second, .val (.int lv), .val (.int pv), .val (.int hv), .val (.int fv), .val (.ref a30), .val (.long tv), .second, .val (.int nN), .val (.int pP), .val (.int cc), .val (.int rp), .val (.ref a260), .unset, .unset, .unset, .unset, .unset, .unset, .unset] [(.int dg384), (.int (2 : Int32)), (.ref a260)] B_ := fun t_ hh => k52 t_ (st382 t_ hh)
 clear k52 st382 X357 e358
 obtain ⟨cl397, Ar398, q399, S400, Ng401, H402, Gf403⟩ := id F389
 have hin404 := inb_of (j := (2 : Int32)) S400 (by decide)
 obtain ⟨T405, h406, X407, e408, W409, st410⟩ := stC X376 hx hZ e396 Ar398 (j := (2 : Int32)) hin404 (g := (mkF m 200 #[.val (.long xv), .second, .val (.int lv), .val (.int pv), .val (.int hv), .val (.int fv), .val (.ref a30), .val (.long tv), .second, .val (.int nN), .val (.int pP), .val (.int cc), .val (.int rp), .val (.ref a260), .unset, .unset, .unset, .unset, .unset, .unset, .unset] [(.int dg384), (.int (2 : Int32)), (.ref a260)])) rfl rfl (hb hby at_200)
 have N411 := Fr.snoc X407 N387 G262
 have K412 : Keep T372.heap h406 [a260] := Keep.of_wr W409
 have V413 := Arv.set Ar398 q399 S400 Ng401 H402 Gf403 (v := (.int (nar .char dg384))) (fits_nar_char _) W409 2 rfl (own_lt rfl)
 have k54 : own_J p e below T405 m 201 #[.val (.long xv), .second, .val (.int lv), .val (.int pv), .val (.int hv), .val (.int fv), .val (.ref a30), .val (.long tv), .second, .val (.int nN), .val (.int pP), .val (.int cc), .val (.int rp), .val (.ref a260), .unset, .unset, .unset, .unset, .unset, .unset, .unset] [] B_ := fun t_ hh => k53 t_ (st410 t_ hh)
 clear k53 st410 X376 e396 cl397 Ar398 q399 S400 Ng401 H402 Gf403 hin404 W409 N387
 have k55 : own_J p e below T405 m 211 #[.val (.long xv), .second, .val (.int lv), .val (.int pv), .val (.int hv), .val (.int fv), .val (.ref a30), .val (.long tv), .second, .val (.int nN), .val (.int pP), .val (.int cc), .val (.int rp), .val (.ref a260), .unset, .unset, .unset, .unset, .unset, .unset, .unset] [(.long (10000000 : Int64)), (.long tv), (.int (3 : Int32)), (.ref a260)] B_ := fun t_ hh => k54 t_ (by
  refine XS.aload X407.here hx rfl (hb hby at_201) rfl rfl ?_
  refine XS.iconst X407.here hx rfl (hb hby at_203) ?_
  refine XS.lload X407.here hx rfl (hb hby at_204) rfl ?_
  refine XS.aload X407.here hx rfl (hb hby at_206) rfl rfl ?_
  refine XS.bipush X407.here hx rfl (hb hby at_208) ?_
  refine own_laload X407 hx hZ e408 (Arv.keep F388 K412 (ninS ne313 nin0)) (j := (7 : Int32)) (v := (.long (10000000 : Int64))) (by decide) rfl (g := (mkF m 210 #[.val (.long xv), .second, .val (.int lv), .val (.int pv), .val (.int hv), .val (.int fv), .val (.ref a30), .val (.long tv), .second, .val (.int nN), .val (.int pP), .val (.int cc), .val (.int rp), .val (.ref a260), .unset, .unset, .unset, .unset, .unset, .unset, .unset] [(.int (7 : Int32)), (.ref a30), (.long tv), (.int (3 : Int32)), (.ref a260)])) rfl rfl (hb hby at_210) _ ?_
  exact hh)
 clear k54
 have V414 : Arv Z h406 a260 kA253 .char (11 : Int32) [(.int (nar .char dg283)), (.int (nar .char dg334)), (.int (nar .char dg384)), (.int (0 : Int32)), (.int (0 : Int32)), (.int (0 : Int32)), (.int (0 : Int32)), (.int (0 : Int32)), (.int (0 : Int32)), (.int (0 : Int32)), (.int (0 : Int32))] (.int (0 : Int32)) := V413
 have F415 := F388.keep K412 (ninS ne313 nin0)
 have Z416 : n0 ≤ h406.size := Nat.le_trans Z390 K412.1
 have hk417 := Nat.le_trans hk391 K412.1
 have Sf418 := Safe.keep K412 (allS Sf393 all0) Cr394.1 Sf392
 have Sf419 := Safe.keep K412 (allS Sf393 all0) Cr394.1 Sf393
 have Cr420 := Cr394.trans (CHr.keep K412 (allS Sf393 all0) Cr394.1)
 have O421 := O395.keep K412 (allS G262 all0)
 obtain ⟨_, _, ⟨T422, L423, k_424, n_425⟩, -, X426, ⟨Lc427, hQ428, l_429, y_430, z_431⟩, st432⟩ := Jvm.LawKit.callS X407 hx (y := (⟨"com/example/commitlog/commitlog/ConsumeQueuesQueueIdOfPinLaw", "digit", "(JJ)C"⟩ : MethodName)) hown (mvT hZ (wT hw 16 rfl)) (mvT hZ (wT hw 17 rfl)) (mvT hZ (wT hw 18 rfl)) (mvT hZ (wT hw 19 rfl)) (by decide) (backOf (W := 2) (rmDg l Z a0 hw [] tv (10000000 : Int64) h406 n0 Z416 ht (by decide) (by decide) (by decide) ) hZ (wT hw 19 rfl) (wT hw 18 rfl) (by decide) (by decide)) (g := (mkF m 211 #[.val (.long xv), .second, .val (.int lv), .val (.int pv), .val (.int hv), .val (.int fv), .val (.ref a30), .val (.long tv), .second, .val (.int nN), .val (.int pP), .val (.int cc), .val (.int rp), .val (.ref a260), .unset, .unset, .unset, .unset, .unset, .unset, .unset] [(.long (10000000 : Int64)), (.long tv), (.int (3 : Int32)), (.ref a260)])) rfl (by rw [hml]; rfl) (argsL := [(.long tv), (.long (10000000 : Int64))]) (rest := [(.int (3 : Int32)), (.ref a260)]) (lenOf own_h821 rfl) rfl (by show 2 * 0 + _ ≤ _; exact Nat.le_of_eq rfl) (hb hby at_211) (fun _ _ => ⟨rfl, e408, own_l rfl, own_l rfl⟩)
 dsimp only [Pt.U, Pt.locs, Pt.cells, Pt.slots] at X426 l_429 y_430 z_431 st432 hQ428
 replace l_429 := l_429.symm
 subst l_429 y_430 z_431
 obtain ⟨dg434, rfl, N433, K436, F435, -⟩ := hQ428
 have N437 := Fr.app N411 N433
 have F438 := F415.keep K436 nin0
 have F439 := V414.keep K436 nin0
 have Z440 : n0 ≤ T422.heap.size := Nat.le_trans Z416 K436.1
 have hk441 := Nat.le_trans hk417 K436.1
 have Sf442 := Safe.keep K436 all0 Cr420.1 Sf418
 have Sf443 := Safe.keep K436 all0 Cr420.1 Sf419
 have Cr444 := Cr420.trans (CHr.keep K436 all0 Cr420.1)
 have O445 := O421.keep K436 all0
 have e446 : T422.heap = T422.heap := rfl
 have k56 : own_J p e below T422 m 214 #[.val (.long xv), .second, .val (.int lv), .val (.int pv), .val (.int hv), .val (.int fv), .val (.ref a30), .val (.long tv), .second, .val (.int nN), .val (.int pP), .val (.int cc), .val (.int rp), .val (.ref a260), .unset, .unset, .unset, .unset, .unset, .unset, .unset] [(.int dg434), (.int (3 : Int32)), (.ref a260)] B_ := fun t_ hh => k55 t_ (st432 t_ hh)
 clear k55 st432 X407 e408
 obtain ⟨cl447, Ar448, q449, S450, Ng451, H452, Gf453⟩ := id F439
 have hin454 := inb_of (j := (3 : Int32)) S450 (by decide)
 obtain ⟨T455, h456, X457, e458, W459, st460⟩ := stC X426 hx hZ e446 Ar448 (j := (3 : Int32)) hin454 (g := (mkF m 214 #[.val (.long xv), .second, .val (.int lv), .val (.int pv), .val (.int hv), .val (.int fv), .val (.ref a30), .val (.long tv), .second, .val (.int nN), .val (.int pP), .val (.int cc), .val (.int rp), .val (.ref a260), .unset, .unset, .unset, .unset, .unset, .unset, .unset] [(.int dg434), (.int (3 : Int32)), (.ref a260)])) rfl rfl (hb hby at_214)
 have N461 := Fr.snoc X457 N437 G262
 have K462 : Keep T422.heap h456 [a260] := Keep.of_wr W459
 have V463 := Arv.set Ar448 q449 S450 Ng451 H452 Gf453 (v := (.int (nar .char dg434))) (fits_nar_char _) W459 3 rfl (own_lt rfl)
 have k57 : own_J p e below T455 m 215 #[.val (.long xv), .second, .val (.int lv), .val (.int pv), .val (.int hv), .val (.int fv), .val (.ref a30), .val (.long tv), .second, .val (.int nN), .val (.int pP), .val (.int cc), .val (.int rp), .val (.ref a260), .unset, .unset, .unset, .unset, .unset, .unset, .unset] [] B_ := fun t_ hh => k56 t_ (st460 t_ hh)
 clear k56 st460 X426 e446 cl447 Ar448 q449 S450 Ng451 H452 Gf453 hin454 W459 N437
 have k58 : own_J p e below T455 m 225 #[.val (.long xv), .second, .val (.int lv), .val (.int pv), .val (.int hv), .val (.int fv), .val (.ref a30), .val (.long tv), .second, .val (.int nN), .val (.int pP), .val (.int cc), .val (.int rp), .val (.ref a260), .unset, .unset, .unset, .unset, .unset, .unset, .unset] [(.long (1000000 : Int64)), (.long tv), (.int (4 : Int32)), (.ref a260)] B_ := fun t_ hh => k57 t_ (by
  refine XS.aload X457.here hx rfl (hb hby at_215) rfl rfl ?_
  refine XS.iconst X457.here hx rfl (hb hby at_217) ?_
  refine XS.lload X457.here hx rfl (hb hby at_218) rfl ?_
  refine XS.aload X457.here hx rfl (hb hby at_220) rfl rfl ?_
  refine XS.bipush X457.here hx rfl (hb hby at_222) ?_
  refine own_laload X457 hx hZ e458 (Arv.keep F438 K462 (ninS ne313 nin0)) (j := (6 : Int32)) (v := (.long (1000000 : Int64))) (by decide) rfl (g := (mkF m 224 #[.val (.long xv), .second, .val (.int lv), .val (.int pv), .val (.int hv), .val (.int fv), .val (.ref a30), .val (.long tv), .second, .val (.int nN), .val (.int pP), .val (.int cc), .val (.int rp), .val (.ref a260), .unset, .unset, .unset, .unset, .unset, .unset, .unset] [(.int (6 : Int32)), (.ref a30), (.long tv), (.int (4 : Int32)), (.ref a260)])) rfl rfl (hb hby at_224) _ ?_
  exact hh)
 clear k57
 have V464 : Arv Z h456 a260 kA253 .char (11 : Int32) [(.int (nar .char dg283)), (.int (nar .char dg334)), (.int (nar .char dg384)), (.int (nar .char dg434)), (.int (0 : Int32)), (.int (0 : Int32)), (.int (0 : Int32)), (.int (0 : Int32)), (.int (0 : Int32)), (.int (0 : Int32)), (.int (0 : Int32))] (.int (0 : Int32)) := V463
 have F465 := F438.keep K462 (ninS ne313 nin0)
 have Z466 : n0 ≤ h456.size := Nat.le_trans Z440 K462.1
 have hk467 := Nat.le_trans hk441 K462.1
 have Sf468 := Safe.keep K462 (allS Sf443 all0) Cr444.1 Sf442
 have Sf469 := Safe.keep K462 (allS Sf443 all0) Cr444.1 Sf443
 have Cr470 := Cr444.trans (CHr.keep K462 (allS Sf443 all0) Cr444.1)
 have O471 := O445.keep K462 (allS G262 all0)
 obtain ⟨_, _, ⟨T472, L473, k_474, n_475⟩, -, X476, ⟨Lc477, hQ478, l_479, y_480, z_481⟩, st482⟩ := Jvm.LawKit.callS X457 hx (y := (⟨"com/example/commitlog/commitlog/ConsumeQueuesQueueIdOfPinLaw", "digit", "(JJ)C"⟩ : MethodName)) hown (mvT hZ (wT hw 16 rfl)) (mvT hZ (wT hw 17 rfl)) (mvT hZ (wT hw 18 rfl)) (mvT hZ (wT hw 19 rfl)) (by decide) (backOf (W := 2) (rmDg l Z a0 hw [] tv (1000000 : Int64) h456 n0 Z466 ht (by decide) (by decide) (by decide) ) hZ (wT hw 19 rfl) (wT hw 18 rfl) (by decide) (by decide)) (g := (mkF m 225 #[.val (.long xv), .second, .val (.int lv), .val (.int pv), .val (.int hv), .val (.int fv), .val (.ref a30), .val (.long tv), .second, .val (.int nN), .val (.int pP), .val (.int cc), .val (.int rp), .val (.ref a260), .unset, .unset, .unset, .unset, .unset, .unset, .unset] [(.long (1000000 : Int64)), (.long tv), (.int (4 : Int32)), (.ref a260)])) rfl (by rw [hml]; rfl) (argsL := [(.long tv), (.long (1000000 : Int64))]) (rest := [(.int (4 : Int32)), (.ref a260)]) (lenOf own_h821 rfl) rfl (by show 2 * 0 + _ ≤ _; exact Nat.le_of_eq rfl) (hb hby at_225) (fun _ _ => ⟨rfl, e458, own_l rfl, own_l rfl⟩)
 dsimp only [Pt.U, Pt.locs, Pt.cells, Pt.slots] at X476 l_479 y_480 z_481 st482 hQ478
 replace l_479 := l_479.symm
 subst l_479 y_480 z_481
 obtain ⟨dg484, rfl, N483, K486, F485, -⟩ := hQ478
 have N487 := Fr.app N461 N483
 have F488 := F465.keep K486 nin0
 have F489 := V464.keep K486 nin0
 have Z490 : n0 ≤ T472.heap.size := Nat.le_trans Z466 K486.1
 have hk491 := Nat.le_trans hk467 K486.1
 have Sf492 := Safe.keep K486 all0 Cr470.1 Sf468
 have Sf493 := Safe.keep K486 all0 Cr470.1 Sf469
 have Cr494 := Cr470.trans (CHr.keep K486 all0 Cr470.1)
 have O495 := O471.keep K486 all0
 have e496 : T472.heap = T472.heap := rfl
 have k59 : own_J p e below T472 m 228 #[.val (.long xv), .second, .val (.int lv), .val (.int pv), .val (.int hv), .val (.int fv), .val (.ref a30), .val (.long tv), .second, .val (.int nN), .val (.int pP), .val (.int cc), .val (.int rp), .val (.ref a260), .unset, .unset, .unset, .unset, .unset, .unset, .unset] [(.int dg484), (.int (4 : Int32)), (.ref a260)] B_ := fun t_ hh => k58 t_ (st482 t_ hh)
 clear k58 st482 X457 e458
 obtain ⟨cl497, Ar498, q499, S500, Ng501, H502, Gf503⟩ := id F489
 have hin504 := inb_of (j := (4 : Int32)) S500 (by decide)
 obtain ⟨T505, h506, X507, e508, W509, st510⟩ := stC X476 hx hZ e496 Ar498 (j := (4 : Int32)) hin504 (g := (mkF m 228 #[.val (.long xv), .second, .val (.int lv), .val (.int pv), .val (.int hv), .val (.int fv), .val (.ref a30), .val (.long tv), .second, .val (.int nN), .val (.int pP), .val (.int cc), .val (.int rp), .val (.ref a260), .unset, .unset, .unset, .unset, .unset, .unset, .unset] [(.int dg484), (.int (4 : Int32)), (.ref a260)])) rfl rfl (hb hby at_228)
 have N511 := Fr.snoc X507 N487 G262
 have K512 : Keep T472.heap h506 [a260] := Keep.of_wr W509
 have V513 := Arv.set Ar498 q499 S500 Ng501 H502 Gf503 (v := (.int (nar .char dg484))) (fits_nar_char _) W509 4 rfl (own_lt rfl)
 have k60 : own_J p e below T505 m 229 #[.val (.long xv), .second, .val (.int lv), .val (.int pv), .val (.int hv), .val (.int fv), .val (.ref a30), .val (.long tv), .second, .val (.int nN), .val (.int pP), .val (.int cc), .val (.int rp), .val (.ref a260), .unset, .unset, .unset, .unset, .unset, .unset, .unset] [] B_ := fun t_ hh => k59 t_ (st510 t_ hh)
 clear k59 st510 X476 e496 cl497 Ar498 q499 S500 Ng501 H502 Gf503 hin504 W509 N487
 have k61 : own_J p e below T505 m 238 #[.val (.long xv), .second, .val (.int lv), .val (.int pv), .val (.int hv), .val (.int fv), .val (.ref a30), .val (.long tv), .second, .val (.int nN), .val (.int pP), .val (.int cc), .val (.int rp), .val (.ref a260), .unset, .unset, .unset, .unset, .unset, .unset, .unset] [(.long (100000 : Int64)), (.long tv), (.int (5 : Int32)), (.ref a260)] B_ := fun t_ hh => k60 t_ (by
  refine XS.aload X507.here hx rfl (hb hby at_229) rfl rfl ?_
  refine XS.iconst X507.here hx rfl (hb hby at_231) ?_
  refine XS.lload X507.here hx rfl (hb hby at_232) rfl ?_
  refine XS.aload X507.here hx rfl (hb hby at_234) rfl rfl ?_
  refine XS.iconst X507.here hx rfl (hb hby at_236) ?_
  refine own_laload X507 hx hZ e508 (Arv.keep F488 K512 (ninS ne313 nin0)) (j := (5 : Int32)) (v := (.long (100000 : Int64))) (by decide) rfl (g := (mkF m 237 #[.val (.long xv), .second, .val (.int lv), .val (.int pv), .val (.int hv), .val (.int fv), .val (.ref a30), .val (.long tv), .second, .val (.int nN), .val (.int pP), .val (.int cc), .val (.int rp), .val (.ref a260), .unset, .unset, .unset, .unset, .unset, .unset, .unset] [(.int (5 : Int32)), (.ref a30), (.long tv), (.int (5 : Int32)), (.ref a260)])) rfl rfl (hb hby at_237) _ ?_
  exact hh)
 clear k60
 have V514 : Arv Z h506 a260 kA253 .char (11 : Int32) [(.int (nar .char dg283)), (.int (nar .char dg334)), (.int (nar .char dg384)), (.int (nar .char dg434)), (.int (nar .char dg484)), (.int (0 : Int32)), (.int (0 : Int32)), (.int (0 : Int32)), (.int (0 : Int32)), (.int (0 : Int32)), (.int (0 : Int32))] (.int (0 : Int32)) := V513
 have F515 := F488.keep K512 (ninS ne313 nin0)
 have Z516 : n0 ≤ h506.size := Nat.le_trans Z490 K512.1
 have hk517 := Nat.le_trans hk491 K512.1
 have Sf518 := Safe.keep K512 (allS Sf493 all0) Cr494.1 Sf492
 have Sf519 := Safe.keep K512 (allS Sf493 all0) Cr494.1 Sf493
 have Cr520 := Cr494.trans (CHr.keep K512 (allS Sf493 all0) Cr494.1)
 have O521 := O495.keep K512 (allS G262 all0)
 obtain ⟨_, _, ⟨T522, L523, k_524, n_525⟩, -, X526, ⟨Lc527, hQ528, l_529, y_530, z_531⟩, st532⟩ := Jvm.LawKit.callS X507 hx (y := (⟨"com/example/commitlog/commitlog/ConsumeQueuesQueueIdOfPinLaw", "digit", "(JJ)C"⟩ : MethodName)) hown (mvT hZ (wT hw 16 rfl)) (mvT hZ (wT hw 17 rfl)) (mvT hZ (wT hw 18 rfl)) (mvT hZ (wT hw 19 rfl)) (by decide) (backOf (W := 2) (rmDg l Z a0 hw [] tv (100000 : Int64) h506 n0 Z516 ht (by decide) (by decide) (by decide) ) hZ (wT hw 19 rfl) (wT hw 18 rfl) (by decide) (by decide)) (g := (mkF m 238 #[.val (.long xv), .second, .val (.int lv), .val (.int pv), .val (.int hv), .val (.int fv), .val (.ref a30), .val (.long tv), .second, .val (.int nN), .val (.int pP), .val (.int cc), .val (.int rp), .val (.ref a260), .unset, .unset, .unset, .unset, .unset, .unset, .unset] [(.long (100000 : Int64)), (.long tv), (.int (5 : Int32)), (.ref a260)])) rfl (by rw [hml]; rfl) (argsL := [(.long tv), (.long (100000 : Int64))]) (rest := [(.int (5 : Int32)), (.ref a260)]) (lenOf own_h821 rfl) rfl (by show 2 * 0 + _ ≤ _; exact Nat.le_of_eq rfl) (hb hby at_238) (fun _ _ => ⟨rfl, e508, own_l rfl, own_l rfl⟩)
 dsimp only [Pt.U, Pt.locs, Pt.cells, Pt.slots] at X526 l_529 y_530 z_531 st532 hQ528
 replace l_529 := l_529.symm
 subst l_529 y_530 z_531
 obtain ⟨dg534, rfl, N533, K536, F535, -⟩ := hQ528
 have N537 := Fr.app N511 N533
 have F538 := F515.keep K536 nin0
 have F539 := V514.keep K536 nin0
 have Z540 : n0 ≤ T522.heap.size := Nat.le_trans Z516 K536.1
 have hk541 := Nat.le_trans hk517 K536.1
 have Sf542 := Safe.keep K536 all0 Cr520.1 Sf518
 have Sf543 := Safe.keep K536 all0 Cr520.1 Sf519
 have Cr544 := Cr520.trans (CHr.keep K536 all0 Cr520.1)
 have O545 := O521.keep K536 all0
 have e546 : T522.heap = T522.heap := rfl
 have k62 : own_J p e below T522 m 241 #[.val (.long xv), .second, .val (.int lv), .val (.int pv), .val (.int hv), .val (.int fv), .val (.ref a30), .val (.long tv), .second, .val (.int nN), .val (.int pP), .val (.int cc), .val (.int rp), .val (.ref a260), .unset, .unset, .unset, .unset, .unset, .unset, .unset] [(.int dg534), (.int (5 : Int32)), (.ref a260)] B_ := fun t_ hh => k61 t_ (st532 t_ hh)
 clear k61 st532 X507 e508
 obtain ⟨cl547, Ar548, q549, S550, Ng551, H552, Gf553⟩ := id F539
 have hin554 := inb_of (j := (5 : Int32)) S550 (by decide)
 obtain ⟨T555, h556, X557, e558, W559, st560⟩ := stC X526 hx hZ e546 Ar548 (j := (5 : Int32)) hin554 (g := (mkF m 241 #[.val (.long xv), .second, .val (.int lv), .val (.int pv), .val (.int hv), .val (.int fv), .val (.ref a30), .val (.long tv), .second, .val (.int nN), .val (.int pP), .val (.int cc), .val (.int rp), .val (.ref a260), .unset, .unset, .unset, .unset, .unset, .unset, .unset] [(.int dg534), (.int (5 : Int32)), (.ref a260)])) rfl rfl (hb hby at_241)
 have N561 := Fr.snoc X557 N537 G262
 have K562 : Keep T522.heap h556 [a260] := Keep.of_wr W559
 have V563 := Arv.set Ar548 q549 S550 Ng551 H552 Gf553 (v := (.int (nar .char dg534))) (fits_nar_char _) W559 5 rfl (own_lt rfl)
 have k63 : own_J p e below T555 m 242 #[.val (.long xv), .second, .val (.int lv), .val (.int pv), .val (.int hv), .val (.int fv), .val (.ref a30), .val (.long tv), .second, .val (.int nN), .val (.int pP), .val (.int cc), .val (.int rp), .val (.ref a260), .unset, .unset, .unset, .unset, .unset, .unset, .unset] [] B_ := fun t_ hh => k62 t_ (st560 t_ hh)
 clear k62 st560 X526 e546 cl547 Ar548 q549 S550 Ng551 H552 Gf553 hin554 W559 N537
 have k64 : own_J p e below T555 m 252 #[.val (.long xv), .second, .val (.int lv), .val (.int pv), .val (.int hv), .val (.int fv), .val (.ref a30), .val (.long tv), .second, .val (.int nN), .val (.int pP), .val (.int cc), .val (.int rp), .val (.ref a260), .unset, .unset, .unset, .unset, .unset, .unset, .unset] [(.long (10000 : Int64)), (.long tv), (.int (6 : Int32)), (.ref a260)] B_ := fun t_ hh => k63 t_ (by
  refine XS.aload X557.here hx rfl (hb hby at_242) rfl rfl ?_
  refine XS.bipush X557.here hx rfl (hb hby at_244) ?_
  refine XS.lload X557.here hx rfl (hb hby at_246) rfl ?_
  refine XS.aload X557.here hx rfl (hb hby at_248) rfl rfl ?_
  refine XS.iconst X557.here hx rfl (hb hby at_250) ?_
  refine own_laload X557 hx hZ e558 (Arv.keep F538 K562 (ninS ne313 nin0)) (j := (4 : Int32)) (v := (.long (10000 : Int64))) (by decide) rfl (g := (mkF m 251 #[.val (.long xv), .second, .val (.int lv), .val (.int pv), .val (.int hv), .val (.int fv), .val (.ref a30), .val (.long tv), .second, .val (.int nN), .val (.int pP), .val (.int cc), .val (.int rp), .val (.ref a260), .unset, .unset, .unset, .unset, .unset, .unset, .unset] [(.int (4 : Int32)), (.ref a30), (.long tv), (.int (6 : Int32)), (.ref a260)])) rfl rfl (hb hby at_251) _ ?_
  exact hh)
 clear k63
 have V564 : Arv Z h556 a260 kA253 .char (11 : Int32) [(.int (nar .char dg283)), (.int (nar .char dg334)), (.int (nar .char dg384)), (.int (nar .char dg434)), (.int (nar .char dg484)), (.int (nar .char dg534)), (.int (0 : Int32)), (.int (0 : Int32)), (.int (0 : Int32)), (.int (0 : Int32)), (.int (0 : Int32))] (.int (0 : Int32)) := V563
 have F565 := F538.keep K562 (ninS ne313 nin0)
 have Z566 : n0 ≤ h556.size := Nat.le_trans Z540 K562.1
 have hk567 := Nat.le_trans hk541 K562.1
 have Sf568 := Safe.keep K562 (allS Sf543 all0) Cr544.1 Sf542
 have Sf569 := Safe.keep K562 (allS Sf543 all0) Cr544.1 Sf543
 have Cr570 := Cr544.trans (CHr.keep K562 (allS Sf543 all0) Cr544.1)
 have O571 := O545.keep K562 (allS G262 all0)
 obtain ⟨_, _, ⟨T572, L573, k_574, n_575⟩, -, X576, ⟨Lc577, hQ578, l_579, y_580, z_581⟩, st582⟩ := Jvm.LawKit.callS X557 hx (y := (⟨"com/example/commitlog/commitlog/ConsumeQueuesQueueIdOfPinLaw", "digit", "(JJ)C"⟩ : MethodName)) hown (mvT hZ (wT hw 16 rfl)) (mvT hZ (wT hw 17 rfl)) (mvT hZ (wT hw 18 rfl)) (mvT hZ (wT hw 19 rfl)) (by decide) (backOf (W := 2) (rmDg l Z a0 hw [] tv (10000 : Int64) h556 n0 Z566 ht (by decide) (by decide) (by decide) ) hZ (wT hw 19 rfl) (wT hw 18 rfl) (by decide) (by decide)) (g := (mkF m 252 #[.val (.long xv), .second, .val (.int lv), .val (.int pv), .val (.int hv), .val (.int fv), .val (.ref a30), .val (.long tv), .second, .val (.int nN), .val (.int pP), .val (.int cc), .val (.int rp), .val (.ref a260), .unset, .unset, .unset, .unset, .unset, .unset, .unset] [(.long (10000 : Int64)), (.long tv), (.int (6 : Int32)), (.ref a260)])) rfl (by rw [hml]; rfl) (argsL := [(.long tv), (.long (10000 : Int64))]) (rest := [(.int (6 : Int32)), (.ref a260)]) (lenOf own_h821 rfl) rfl (by show 2 * 0 + _ ≤ _; exact Nat.le_of_eq rfl) (hb hby at_252) (fun _ _ => ⟨rfl, e558, own_l rfl, own_l rfl⟩)
 dsimp only [Pt.U, Pt.locs, Pt.cells, Pt.slots] at X576 l_579 y_580 z_581 st582 hQ578
 replace l_579 := l_579.symm
 subst l_579 y_580 z_581
 obtain ⟨dg584, rfl, N583, K586, F585, -⟩ := hQ578
 have N587 := Fr.app N561 N583
 have F588 := F565.keep K586 nin0
 have F589 := V564.keep K586 nin0
 have Z590 : n0 ≤ T572.heap.size := Nat.le_trans Z566 K586.1
 have hk591 := Nat.le_trans hk567 K586.1
 have Sf592 := Safe.keep K586 all0 Cr570.1 Sf568
 have Sf593 := Safe.keep K586 all0 Cr570.1 Sf569
 have Cr594 := Cr570.trans (CHr.keep K586 all0 Cr570.1)
 have O595 := O571.keep K586 all0
 have e596 : T572.heap = T572.heap := rfl
 have k65 : own_J p e below T572 m 255 #[.val (.long xv), .second, .val (.int lv), .val (.int pv), .val (.int hv), .val (.int fv), .val (.ref a30), .val (.long tv), .second, .val (.int nN), .val (.int pP), .val (.int cc), .val (.int rp), .val (.ref a260), .unset, .unset, .unset, .unset, .unset, .unset, .unset] [(.int dg584), (.int (6 : Int32)), (.ref a260)] B_ := fun t_ hh => k64 t_ (st582 t_ hh)
 clear k64 st582 X557 e558
 obtain ⟨cl597, Ar598, q599, S600, Ng601, H602, Gf603⟩ := id F589
 have hin604 := inb_of (j := (6 : Int32)) S600 (by decide)
 obtain ⟨T605, h606, X607, e608, W609, st610⟩ := stC X576 hx hZ e596 Ar598 (j := (6 : Int32)) hin604 (g := (mkF m 255 #[.val (.long xv), .second, .val (.int lv), .val (.int pv), .val (.int hv), .val (.int fv), .val (.ref a30), .val (.long tv), .second, .val (.int nN), .val (.int pP), .val (.int cc), .val (.int rp), .val (.ref a260), .unset, .unset, .unset, .unset, .unset, .unset, .unset] [(.int dg584), (.int (6 : Int32)), (.ref a260)])) rfl rfl (hb hby at_255)
 have N611 := Fr.snoc X607 N587 G262
 have K612 : Keep T572.heap h606 [a260] := Keep.of_wr W609
 have V613 := Arv.set Ar598 q599 S600 Ng601 H602 Gf603 (v := (.int (nar .char dg584))) (fits_nar_char _) W609 6 rfl (own_lt rfl)
 have k66 : own_J p e below T605 m 256 #[.val (.long xv), .second, .val (.int lv), .val (.int pv), .val (.int hv), .val (.int fv), .val (.ref a30), .val (.long tv), .second, .val (.int nN), .val (.int pP), .val (.int cc), .val (.int rp), .val (.ref a260), .unset, .unset, .unset, .unset, .unset, .unset, .unset] [] B_ := fun t_ hh => k65 t_ (st610 t_ hh)
 clear k65 st610 X576 e596 cl597 Ar598 q599 S600 Ng601 H602 Gf603 hin604 W609 N587
 have k67 : own_J p e below T605 m 266 #[.val (.long xv), .second, .val (.int lv), .val (.int pv), .val (.int hv), .val (.int fv), .val (.ref a30), .val (.long tv), .second, .val (.int nN), .val (.int pP), .val (.int cc), .val (.int rp), .val (.ref a260), .unset, .unset, .unset, .unset, .unset, .unset, .unset] [(.long (1000 : Int64)), (.long tv), (.int (7 : Int32)), (.ref a260)] B_ := fun t_ hh => k66 t_ (by
  refine XS.aload X607.here hx rfl (hb hby at_256) rfl rfl ?_
  refine XS.bipush X607.here hx rfl (hb hby at_258) ?_
  refine XS.lload X607.here hx rfl (hb hby at_260) rfl ?_
  refine XS.aload X607.here hx rfl (hb hby at_262) rfl rfl ?_
  refine XS.iconst X607.here hx rfl (hb hby at_264) ?_
  refine own_laload X607 hx hZ e608 (Arv.keep F588 K612 (ninS ne313 nin0)) (j := (3 : Int32)) (v := (.long (1000 : Int64))) (by decide) rfl (g := (mkF m 265 #[.val (.long xv), .second, .val (.int lv), .val (.int pv), .val (.int hv), .val (.int fv), .val (.ref a30), .val (.long tv), .second, .val (.int nN), .val (.int pP), .val (.int cc), .val (.int rp), .val (.ref a260), .unset, .unset, .unset, .unset, .unset, .unset, .unset] [(.int (3 : Int32)), (.ref a30), (.long tv), (.int (7 : Int32)), (.ref a260)])) rfl rfl (hb hby at_265) _ ?_
  exact hh)
 clear k66
 have V614 : Arv Z h606 a260 kA253 .char (11 : Int32) [(.int (nar .char dg283)), (.int (nar .char dg334)), (.int (nar .char dg384)), (.int (nar .char dg434)), (.int (nar .char dg484)), (.int (nar .char dg534)), (.int (nar .char dg584)), (.int (0 : Int32)), (.int (0 : Int32)), (.int (0 : Int32)), (.int (0 : Int32))] (.int (0 : Int32)) := V613
 have F615 := F588.keep K612 (ninS ne313 nin0)
 have Z616 : n0 ≤ h606.size := Nat.le_trans Z590 K612.1
 have hk617 := Nat.le_trans hk591 K612.1
 have Sf618 := Safe.keep K612 (allS Sf593 all0) Cr594.1 Sf592
 have Sf619 := Safe.keep K612 (allS Sf593 all0) Cr594.1 Sf593
 have Cr620 := Cr594.trans (CHr.keep K612 (allS Sf593 all0) Cr594.1)
 have O621 := O595.keep K612 (allS G262 all0)
 obtain ⟨_, _, ⟨T622, L623, k_624, n_625⟩, -, X626, ⟨Lc627, hQ628, l_629, y_630, z_631⟩, st632⟩ := Jvm.LawKit.callS X607 hx (y := (⟨"com/example/commitlog/commitlog/ConsumeQueuesQueueIdOfPinLaw", "digit", "(JJ)C"⟩ : MethodName)) hown (mvT hZ (wT hw 16 rfl)) (mvT hZ (wT hw 17 rfl)) (mvT hZ (wT hw 18 rfl)) (mvT hZ (wT hw 19 rfl)) (by decide) (backOf (W := 2) (rmDg l Z a0 hw [] tv (1000 : Int64) h606 n0 Z616 ht (by decide) (by decide) (by decide) ) hZ (wT hw 19 rfl) (wT hw 18 rfl) (by decide) (by decide)) (g := (mkF m 266 #[.val (.long xv), .second, .val (.int lv), .val (.int pv), .val (.int hv), .val (.int fv), .val (.ref a30), .val (.long tv), .second, .val (.int nN), .val (.int pP), .val (.int cc), .val (.int rp), .val (.ref a260), .unset, .unset, .unset, .unset, .unset, .unset, .unset] [(.long (1000 : Int64)), (.long tv), (.int (7 : Int32)), (.ref a260)])) rfl (by rw [hml]; rfl) (argsL := [(.long tv), (.long (1000 : Int64))]) (rest := [(.int (7 : Int32)), (.ref a260)]) (lenOf own_h821 rfl) rfl (by show 2 * 0 + _ ≤ _; exact Nat.le_of_eq rfl) (hb hby at_266) (fun _ _ => ⟨rfl, e608, own_l rfl, own_l rfl⟩)
 dsimp only [Pt.U, Pt.locs, Pt.cells, Pt.slots] at X626 l_629 y_630 z_631 st632 hQ628
 replace l_629 := l_629.symm
 subst l_629 y_630 z_631
 obtain ⟨dg634, rfl, N633, K636, F635, -⟩ := hQ628
 have N637 := Fr.app N611 N633
 have F638 := F615.keep K636 nin0
 have F639 := V614.keep K636 nin0
 have Z640 : n0 ≤ T622.heap.size := Nat.le_trans Z616 K636.1
 have hk641 := Nat.le_trans hk617 K636.1
 have Sf642 := Safe.keep K636 all0 Cr620.1 Sf618
 have Sf643 := Safe.keep K636 all0 Cr620.1 Sf619
 have Cr644 := Cr620.trans (CHr.keep K636 all0 Cr620.1)
 have O645 := O621.keep K636 all0
 have e646 : T622.heap = T622.heap := rfl
 have k68 : own_J p e below T622 m 269 #[.val (.long xv), .second, .val (.int lv), .val (.int pv), .val (.int hv), .val (.int fv), .val (.ref a30), .val (.long tv), .second, .val (.int nN), .val (.int pP), .val (.int cc), .val (.int rp), .val (.ref a260), .unset, .unset, .unset, .unset, .unset, .unset, .unset] [(.int dg634), (.int (7 : Int32)), (.ref a260)] B_ := fun t_ hh => k67 t_ (st632 t_ hh)
 clear k67 st632 X607 e608
 obtain ⟨cl647, Ar648, q649, S650, Ng651, H652, Gf653⟩ := id F639
 have hin654 := inb_of (j := (7 : Int32)) S650 (by decide)
 obtain ⟨T655, h656, X657, e658, W659, st660⟩ := stC X626 hx hZ e646 Ar648 (j := (7 : Int32)) hin654 (g := (mkF m 269 #[.val (.long xv), .second, .val (.int lv), .val (.int pv), .val (.int hv), .val (.int fv), .val (.ref a30), .val (.long tv), .second, .val (.int nN), .val (.int pP), .val (.int cc), .val (.int rp), .val (.ref a260), .unset, .unset, .unset, .unset, .unset, .unset, .unset] [(.int dg634), (.int (7 : Int32)), (.ref a260)])) rfl rfl (hb hby at_269)
 have N661 := Fr.snoc X657 N637 G262
 have K662 : Keep T622.heap h656 [a260] := Keep.of_wr W659
 have V663 := Arv.set Ar648 q649 S650 Ng651 H652 Gf653 (v := (.int (nar .char dg634))) (fits_nar_char _) W659 7 rfl (own_lt rfl)
 have k69 : own_J p e below T655 m 270 #[.val (.long xv), .second, .val (.int lv), .val (.int pv), .val (.int hv), .val (.int fv), .val (.ref a30), .val (.long tv), .second, .val (.int nN), .val (.int pP), .val (.int cc), .val (.int rp), .val (.ref a260), .unset, .unset, .unset, .unset, .unset, .unset, .unset] [] B_ := fun t_ hh => k68 t_ (st660 t_ hh)
 clear k68 st660 X626 e646 cl647 Ar648 q649 S650 Ng651 H652 Gf653 hin654 W659 N637
 have k70 : own_J p e below T655 m 280 #[.val (.long xv), .second, .val (.int lv), .val (.int pv), .val (.int hv), .val (.int fv), .val (.ref a30), .val (.long tv), .second, .val (.int nN), .val (.int pP), .val (.int cc), .val (.int rp), .val (.ref a260), .unset, .unset, .unset, .unset, .unset, .unset, .unset] [(.long (100 : Int64)), (.long tv), (.int (8 : Int32)), (.ref a260)] B_ := fun t_ hh => k69 t_ (by
  refine XS.aload X657.here hx rfl (hb hby at_270) rfl rfl ?_
  refine XS.bipush X657.here hx rfl (hb hby at_272) ?_
  refine XS.lload X657.here hx rfl (hb hby at_274) rfl ?_
  refine XS.aload X657.here hx rfl (hb hby at_276) rfl rfl ?_
  refine XS.iconst X657.here hx rfl (hb hby at_278) ?_
  refine own_laload X657 hx hZ e658 (Arv.keep F638 K662 (ninS ne313 nin0)) (j := (2 : Int32)) (v := (.long (100 : Int64))) (by decide) rfl (g := (mkF m 279 #[.val (.long xv), .second, .val (.int lv), .val (.int pv), .val (.int hv), .val (.int fv), .val (.ref a30), .val (.long tv), .second, .val (.int nN), .val (.int pP), .val (.int cc), .val (.int rp), .val (.ref a260), .unset, .unset, .unset, .unset, .unset, .unset, .unset] [(.int (2 : Int32)), (.ref a30), (.long tv), (.int (8 : Int32)), (.ref a260)])) rfl rfl (hb hby at_279) _ ?_
  exact hh)
 clear k69
 have V664 : Arv Z h656 a260 kA253 .char (11 : Int32) [(.int (nar .char dg283)), (.int (nar .char dg334)), (.int (nar .char dg384)), (.int (nar .char dg434)), (.int (nar .char dg484)), (.int (nar .char dg534)), (.int (nar .char dg584)), (.int (nar .char dg634)), (.int (0 : Int32)), (.int (0 : Int32)), (.int (0 : Int32))] (.int (0 : Int32)) := V663
 have F665 := F638.keep K662 (ninS ne313 nin0)
 have Z666 : n0 ≤ h656.size := Nat.le_trans Z640 K662.1
 have hk667 := Nat.le_trans hk641 K662.1
 have Sf668 := Safe.keep K662 (allS Sf643 all0) Cr644.1 Sf642
 have Sf669 := Safe.keep K662 (allS Sf643 all0) Cr644.1 Sf643
 have Cr670 := Cr644.trans (CHr.keep K662 (allS Sf643 all0) Cr644.1)
 have O671 := O645.keep K662 (allS G262 all0)
 obtain ⟨_, _, ⟨T672, L673, k_674, n_675⟩, -, X676, ⟨Lc677, hQ678, l_679, y_680, z_681⟩, st682⟩ := Jvm.LawKit.callS X657 hx (y := (⟨"com/example/commitlog/commitlog/ConsumeQueuesQueueIdOfPinLaw", "digit", "(JJ)C"⟩ : MethodName)) hown (mvT hZ (wT hw 16 rfl)) (mvT hZ (wT hw 17 rfl)) (mvT hZ (wT hw 18 rfl)) (mvT hZ (wT hw 19 rfl)) (by decide) (backOf (W := 2) (rmDg l Z a0 hw [] tv (100 : Int64) h656 n0 Z666 ht (by decide) (by decide) (by decide) ) hZ (wT hw 19 rfl) (wT hw 18 rfl) (by decide) (by decide)) (g := (mkF m 280 #[.val (.long xv), .second, .val (.int lv), .val (.int pv), .val (.int hv), .val (.int fv), .val (.ref a30), .val (.long tv), .second, .val (.int nN), .val (.int pP), .val (.int cc), .val (.int rp), .val (.ref a260), .unset, .unset, .unset, .unset, .unset, .unset, .unset] [(.long (100 : Int64)), (.long tv), (.int (8 : Int32)), (.ref a260)])) rfl (by rw [hml]; rfl) (argsL := [(.long tv), (.long (100 : Int64))]) (rest := [(.int (8 : Int32)), (.ref a260)]) (lenOf own_h821 rfl) rfl (by show 2 * 0 + _ ≤ _; exact Nat.le_of_eq rfl) (hb hby at_280) (fun _ _ => ⟨rfl, e658, own_l rfl, own_l rfl⟩)
 dsimp only [Pt.U, Pt.locs, Pt.cells, Pt.slots] at X676 l_679 y_680 z_681 st682 hQ678
 replace l_679 := l_679.symm
 subst l_679 y_680 z_681
 obtain ⟨dg684, rfl, N683, K686, F685, -⟩ := hQ678
 have N687 := Fr.app N661 N683
 have F688 := F665.keep K686 nin0
 have F689 := V664.keep K686 nin0
 have Z690 : n0 ≤ T672.heap.size := Nat.le_trans Z666 K686.1
 have hk691 := Nat.le_trans hk667 K686.1
 have Sf692 := Safe.keep K686 all0 Cr670.1 Sf668
 have Sf693 := Safe.keep K686 all0 Cr670.1 Sf669
 have Cr694 := Cr670.trans (CHr.keep K686 all0 Cr670.1)
 have O695 := O671.keep K686 all0
 have e696 : T672.heap = T672.heap := rfl
 have k71 : own_J p e below T672 m 283 #[.val (.long xv), .second, .val (.int lv), .val (.int pv), .val (.int hv), .val (.int fv), .val (.ref a30), .val (.long tv), .second, .val (.int nN), .val (.int pP), .val (.int cc), .val (.int rp), .val (.ref a260), .unset, .unset, .unset, .unset, .unset, .unset, .unset] [(.int dg684), (.int (8 : Int32)), (.ref a260)] B_ := fun t_ hh => k70 t_ (st682 t_ hh)
 clear k70 st682 X657 e658
 obtain ⟨cl697, Ar698, q699, S700, Ng701, H702, Gf703⟩ := id F689
 have hin704 := inb_of (j := (8 : Int32)) S700 (by decide)
 obtain ⟨T705, h706, X707, e708, W709, st710⟩ := stC X676 hx hZ e696 Ar698 (j := (8 : Int32)) hin704 (g := (mkF m 283 #[.val (.long xv), .second, .val (.int lv), .val (.int pv), .val (.int hv), .val (.int fv), .val (.ref a30), .val (.long tv), .second, .val (.int nN), .val (.int pP), .val (.int cc), .val (.int rp), .val (.ref a260), .unset, .unset, .unset, .unset, .unset, .unset, .unset] [(.int dg684), (.int (8 : Int32)), (.ref a260)])) rfl rfl (hb hby at_283)
 have N711 := Fr.snoc X707 N687 G262
 have K712 : Keep T672.heap h706 [a260] := Keep.of_wr W709
 have V713 := Arv.set Ar698 q699 S700 Ng701 H702 Gf703 (v := (.int (nar .char dg684))) (fits_nar_char _) W709 8 rfl (own_lt rfl)
 have k72 : own_J p e below T705 m 284 #[.val (.long xv), .second, .val (.int lv), .val (.int pv), .val (.int hv), .val (.int fv), .val (.ref a30), .val (.long tv), .second, .val (.int nN), .val (.int pP), .val (.int cc), .val (.int rp), .val (.ref a260), .unset, .unset, .unset, .unset, .unset, .unset, .unset] [] B_ := fun t_ hh => k71 t_ (st710 t_ hh)
 clear k71 st710 X676 e696 cl697 Ar698 q699 S700 Ng701 H702 Gf703 hin704 W709 N687
 have k73 : own_J p e below T705 m 294 #[.val (.long xv), .second, .val (.int lv), .val (.int pv), .val (.int hv), .val (.int fv), .val (.ref a30), .val (.long tv), .second, .val (.int nN), .val (.int pP), .val (.int cc), .val (.int rp), .val (.ref a260), .unset, .unset, .unset, .unset, .unset, .unset, .unset] [(.long (10 : Int64)), (.long tv), (.int (9 : Int32)), (.ref a260)] B_ := fun t_ hh => k72 t_ (by
  refine XS.aload X707.here hx rfl (hb hby at_284) rfl rfl ?_
  refine XS.bipush X707.here hx rfl (hb hby at_286) ?_
  refine XS.lload X707.here hx rfl (hb hby at_288) rfl ?_
  refine XS.aload X707.here hx rfl (hb hby at_290) rfl rfl ?_
  refine XS.iconst X707.here hx rfl (hb hby at_292) ?_
  refine own_laload X707 hx hZ e708 (Arv.keep F688 K712 (ninS ne313 nin0)) (j := (1 : Int32)) (v := (.long (10 : Int64))) (by decide) rfl (g := (mkF m 293 #[.val (.long xv), .second, .val (.int lv), .val (.int pv), .val (.int hv), .val (.int fv), .val (.ref a30), .val (.long tv), .second, .val (.int nN), .val (.int pP), .val (.int cc), .val (.int rp), .val (.ref a260), .unset, .unset, .unset, .unset, .unset, .unset, .unset] [(.int (1 : Int32)), (.ref a30), (.long tv), (.int (9 : Int32)), (.ref a260)])) rfl rfl (hb hby at_293) _ ?_
  exact hh)
 clear k72
 have V714 : Arv Z h706 a260 kA253 .char (11 : Int32) [(.int (nar .char dg283)), (.int (nar .char dg334)), (.int (nar .char dg384)), (.int (nar .char dg434)), (.int (nar .char dg484)), (.int (nar .char dg534)), (.int (nar .char dg584)), (.int (nar .char dg634)), (.int (nar .char dg684)), (.int (0 : Int32)), (.int (0 : Int32))] (.int (0 : Int32)) := V713
 have F715 := F688.keep K712 (ninS ne313 nin0)
 have Z716 : n0 ≤ h706.size := Nat.le_trans Z690 K712.1
 have hk717 := Nat.le_trans hk691 K712.1
 have Sf718 := Safe.keep K712 (allS Sf693 all0) Cr694.1 Sf692
 have Sf719 := Safe.keep K712 (allS Sf693 all0) Cr694.1 Sf693
 have Cr720 := Cr694.trans (CHr.keep K712 (allS Sf693 all0) Cr694.1)
 have O721 := O695.keep K712 (allS G262 all0)
 obtain ⟨_, _, ⟨T722, L723, k_724, n_725⟩, -, X726, ⟨Lc727, hQ728, l_729, y_730, z_731⟩, st732⟩ := Jvm.LawKit.callS X707 hx (y := (⟨"com/example/commitlog/commitlog/ConsumeQueuesQueueIdOfPinLaw", "digit", "(JJ)C"⟩ : MethodName)) hown (mvT hZ (wT hw 16 rfl)) (mvT hZ (wT hw 17 rfl)) (mvT hZ (wT hw 18 rfl)) (mvT hZ (wT hw 19 rfl)) (by decide) (backOf (W := 2) (rmDg l Z a0 hw [] tv (10 : Int64) h706 n0 Z716 ht (by decide) (by decide) (by decide) ) hZ (wT hw 19 rfl) (wT hw 18 rfl) (by decide) (by decide)) (g := (mkF m 294 #[.val (.long xv), .second, .val (.int lv), .val (.int pv), .val (.int hv), .val (.int fv), .val (.ref a30), .val (.long tv), .second, .val (.int nN), .val (.int pP), .val (.int cc), .val (.int rp), .val (.ref a260), .unset, .unset, .unset, .unset, .unset, .unset, .unset] [(.long (10 : Int64)), (.long tv), (.int (9 : Int32)), (.ref a260)])) rfl (by rw [hml]; rfl) (argsL := [(.long tv), (.long (10 : Int64))]) (rest := [(.int (9 : Int32)), (.ref a260)]) (lenOf own_h821 rfl) rfl (by show 2 * 0 + _ ≤ _; exact Nat.le_of_eq rfl) (hb hby at_294) (fun _ _ => ⟨rfl, e708, own_l rfl, own_l rfl⟩)
 dsimp only [Pt.U, Pt.locs, Pt.cells, Pt.slots] at X726 l_729 y_730 z_731 st732 hQ728
 replace l_729 := l_729.symm
 subst l_729 y_730 z_731
 obtain ⟨dg734, rfl, N733, K736, F735, -⟩ := hQ728
 have N737 := Fr.app N711 N733
 have F738 := F715.keep K736 nin0
 have F739 := V714.keep K736 nin0
 have Z740 : n0 ≤ T722.heap.size := Nat.le_trans Z716 K736.1
 have hk741 := Nat.le_trans hk717 K736.1
 have Sf742 := Safe.keep K736 all0 Cr720.1 Sf718
 have Sf743 := Safe.keep K736 all0 Cr720.1 Sf719
 have Cr744 := Cr720.trans (CHr.keep K736 all0 Cr720.1)
 have O745 := O721.keep K736 all0
 have e746 : T722.heap = T722.heap := rfl
 have k74 : own_J p e below T722 m 297 #[.val (.long xv), .second, .val (.int lv), .val (.int pv), .val (.int hv), .val (.int fv), .val (.ref a30), .val (.long tv), .second, .val (.int nN), .val (.int pP), .val (.int cc), .val (.int rp), .val (.ref a260), .unset, .unset, .unset, .unset, .unset, .unset, .unset] [(.int dg734), (.int (9 : Int32)), (.ref a260)] B_ := fun t_ hh => k73 t_ (st732 t_ hh)
 clear k73 st732 X707 e708
 obtain ⟨cl747, Ar748, q749, S750, Ng751, H752, Gf753⟩ := id F739
 have hin754 := inb_of (j := (9 : Int32)) S750 (by decide)
 obtain ⟨T755, h756, X757, e758, W759, st760⟩ := stC X726 hx hZ e746 Ar748 (j := (9 : Int32)) hin754 (g := (mkF m 297 #[.val (.long xv), .second, .val (.int lv), .val (.int pv), .val (.int hv), .val (.int fv), .val (.ref a30), .val (.long tv), .second, .val (.int nN), .val (.int pP), .val (.int cc), .val (.int rp), .val (.ref a260), .unset, .unset, .unset, .unset, .unset, .unset, .unset] [(.int dg734), (.int (9 : Int32)), (.ref a260)])) rfl rfl (hb hby at_297)
 have N761 := Fr.snoc X757 N737 G262
 have K762 : Keep T722.heap h756 [a260] := Keep.of_wr W759
 have V763 := Arv.set Ar748 q749 S750 Ng751 H752 Gf753 (v := (.int (nar .char dg734))) (fits_nar_char _) W759 9 rfl (own_lt rfl)
 have k75 : own_J p e below T755 m 298 #[.val (.long xv), .second, .val (.int lv), .val (.int pv), .val (.int hv), .val (.int fv), .val (.ref a30), .val (.long tv), .second, .val (.int nN), .val (.int pP), .val (.int cc), .val (.int rp), .val (.ref a260), .unset, .unset, .unset, .unset, .unset, .unset, .unset] [] B_ := fun t_ hh => k74 t_ (st760 t_ hh)
 clear k74 st760 X726 e746 cl747 Ar748 q749 S750 Ng751 H752 Gf753 hin754 W759 N737
 have k76 : own_J p e below T755 m 308 #[.val (.long xv), .second, .val (.int lv), .val (.int pv), .val (.int hv), .val (.int fv), .val (.ref a30), .val (.long tv), .second, .val (.int nN), .val (.int pP), .val (.int cc), .val (.int rp), .val (.ref a260), .unset, .unset, .unset, .unset, .unset, .unset, .unset] [(.long (1 : Int64)), (.long tv), (.int (10 : Int32)), (.ref a260)] B_ := fun t_ hh => k75 t_ (by
  refine XS.aload X757.here hx rfl (hb hby at_298) rfl rfl ?_
  refine XS.bipush X757.here hx rfl (hb hby at_300) ?_
  refine XS.lload X757.here hx rfl (hb hby at_302) rfl ?_
  refine XS.aload X757.here hx rfl (hb hby at_304) rfl rfl ?_
  refine XS.iconst X757.here hx rfl (hb hby at_306) ?_
  refine own_laload X757 hx hZ e758 (Arv.keep F738 K762 (ninS ne313 nin0)) (j := (0 : Int32)) (v := (.long (1 : Int64))) (by decide) rfl (g := (mkF m 307 #[.val (.long xv), .second, .val (.int lv), .val (.int pv), .val (.int hv), .val (.int fv), .val (.ref a30), .val (.long tv), .second, .val (.int nN), .val (.int pP), .val (.int cc), .val (.int rp), .val (.ref a260), .unset, .unset, .unset, .unset, .unset, .unset, .unset] [(.int (0 : Int32)), (.ref a30), (.long tv), (.int (10 : Int32)), (.ref a260)])) rfl rfl (hb hby at_307) _ ?_
  exact hh)
 clear k75
 have V764 : Arv Z h756 a260 kA253 .char (11 : Int32) [(.int (nar .char dg283)), (.int (nar .char dg334)), (.int (nar .char dg384)), (.int (nar .char dg434)), (.int (nar .char dg484)), (.int (nar .char dg534)), (.int (nar .char dg584)), (.int (nar .char dg634)), (.int (nar .char dg684)), (.int (nar .char dg734)), (.int (0 : Int32))] (.int (0 : Int32)) := V763
 have F765 := F738.keep K762 (ninS ne313 nin0)
 have Z766 : n0 ≤ h756.size := Nat.le_trans Z740 K762.1
 have hk767 := Nat.le_trans hk741 K762.1
 have Sf768 := Safe.keep K762 (allS Sf743 all0) Cr744.1 Sf742
 have Sf769 := Safe.keep K762 (allS Sf743 all0) Cr744.1 Sf743
 have Cr770 := Cr744.trans (CHr.keep K762 (allS Sf743 all0) Cr744.1)
 have O771 := O745.keep K762 (allS G262 all0)
 obtain ⟨_, _, ⟨T772, L773, k_774, n_775⟩, -, X776, ⟨Lc777, hQ778, l_779, y_780, z_781⟩, st782⟩ := Jvm.LawKit.callS X757 hx (y := (⟨"com/example/commitlog/commitlog/ConsumeQueuesQueueIdOfPinLaw", "digit", "(JJ)C"⟩ : MethodName)) hown (mvT hZ (wT hw 16 rfl)) (mvT hZ (wT hw 17 rfl)) (mvT hZ (wT hw 18 rfl)) (mvT hZ (wT hw 19 rfl)) (by decide) (backOf (W := 2) (rmDg l Z a0 hw [] tv (1 : Int64) h756 n0 Z766 ht (by decide) (by decide) (by decide) ) hZ (wT hw 19 rfl) (wT hw 18 rfl) (by decide) (by decide)) (g := (mkF m 308 #[.val (.long xv), .second, .val (.int lv), .val (.int pv), .val (.int hv), .val (.int fv), .val (.ref a30), .val (.long tv), .second, .val (.int nN), .val (.int pP), .val (.int cc), .val (.int rp), .val (.ref a260), .unset, .unset, .unset, .unset, .unset, .unset, .unset] [(.long (1 : Int64)), (.long tv), (.int (10 : Int32)), (.ref a260)])) rfl (by rw [hml]; rfl) (argsL := [(.long tv), (.long (1 : Int64))]) (rest := [(.int (10 : Int32)), (.ref a260)]) (lenOf own_h821 rfl) rfl (by show 2 * 0 + _ ≤ _; exact Nat.le_of_eq rfl) (hb hby at_308) (fun _ _ => ⟨rfl, e758, own_l rfl, own_l rfl⟩)
 dsimp only [Pt.U, Pt.locs, Pt.cells, Pt.slots] at X776 l_779 y_780 z_781 st782 hQ778
 replace l_779 := l_779.symm
 subst l_779 y_780 z_781
 obtain ⟨dg784, rfl, N783, K786, F785, -⟩ := hQ778
 have N787 := Fr.app N761 N783
 have F788 := F765.keep K786 nin0
 have F789 := V764.keep K786 nin0
 have Z790 : n0 ≤ T772.heap.size := Nat.le_trans Z766 K786.1
 have hk791 := Nat.le_trans hk767 K786.1
 have Sf792 := Safe.keep K786 all0 Cr770.1 Sf768
 have Sf793 := Safe.keep K786 all0 Cr770.1 Sf769
 have Cr794 := Cr770.trans (CHr.keep K786 all0 Cr770.1)
 have O795 := O771.keep K786 all0
 have e796 : T772.heap = T772.heap := rfl
 have k77 : own_J p e below T772 m 311 #[.val (.long xv), .second, .val (.int lv), .val (.int pv), .val (.int hv), .val (.int fv), .val (.ref a30), .val (.long tv), .second, .val (.int nN), .val (.int pP), .val (.int cc), .val (.int rp), .val (.ref a260), .unset, .unset, .unset, .unset, .unset, .unset, .unset] [(.int dg784), (.int (10 : Int32)), (.ref a260)] B_ := fun t_ hh => k76 t_ (st782 t_ hh)
 clear k76 st782 X757 e758
 obtain ⟨cl797, Ar798, q799, S800, Ng801, H802, Gf803⟩ := id F789
 have hin804 := inb_of (j := (10 : Int32)) S800 (by decide)
 obtain ⟨T805, h806, X807, e808, W809, st810⟩ := stC X776 hx hZ e796 Ar798 (j := (10 : Int32)) hin804 (g := (mkF m 311 #[.val (.long xv), .second, .val (.int lv), .val (.int pv), .val (.int hv), .val (.int fv), .val (.ref a30), .val (.long tv), .second, .val (.int nN), .val (.int pP), .val (.int cc), .val (.int rp), .val (.ref a260), .unset, .unset, .unset, .unset, .unset, .unset, .unset] [(.int dg784), (.int (10 : Int32)), (.ref a260)])) rfl rfl (hb hby at_311)
 have N811 := Fr.snoc X807 N787 G262
 have K812 : Keep T772.heap h806 [a260] := Keep.of_wr W809
 have V813 := Arv.set Ar798 q799 S800 Ng801 H802 Gf803 (v := (.int (nar .char dg784))) (fits_nar_char _) W809 10 rfl (own_lt rfl)
 have k78 : own_J p e below T805 m 312 #[.val (.long xv), .second, .val (.int lv), .val (.int pv), .val (.int hv), .val (.int fv), .val (.ref a30), .val (.long tv), .second, .val (.int nN), .val (.int pP), .val (.int cc), .val (.int rp), .val (.ref a260), .unset, .unset, .unset, .unset, .unset, .unset, .unset] [] B_ := fun t_ hh => k77 t_ (st810 t_ hh)
 clear k77 st810 X776 e796 cl797 Ar798 q799 S800 Ng801 H802 Gf803 hin804 W809 N787
 have k79 : own_J p e below T805 m 314 #[.val (.long xv), .second, .val (.int lv), .val (.int pv), .val (.int hv), .val (.int fv), .val (.ref a30), .val (.long tv), .second, .val (.int nN), .val (.int pP), .val (.int cc), .val (.int rp), .val (.ref a260), .unset, .unset, .unset, .unset, .unset, .unset, .unset] [(.int rp)] B_ := fun t_ hh => k78 t_ (by
  refine XS.iload X807.here hx rfl (hb hby at_312) rfl ?_
  exact hh)
 clear k78
 have V814 : Arv Z h806 a260 kA253 .char (11 : Int32) [(.int (nar .char dg283)), (.int (nar .char dg334)), (.int (nar .char dg384)), (.int (nar .char dg434)), (.int (nar .char dg484)), (.int (nar .char dg534)), (.int (nar .char dg584)), (.int (nar .char dg634)), (.int (nar .char dg684)), (.int (nar .char dg734)), (.int (nar .char dg784))] (.int (0 : Int32)) := V813
 have F815 := F788.keep K812 (ninS ne313 nin0)
 have Z816 : n0 ≤ h806.size := Nat.le_trans Z790 K812.1
 have hk817 := Nat.le_trans hk791 K812.1
 have Sf818 := Safe.keep K812 (allS Sf793 all0) Cr794.1 Sf792
 have Sf819 := Safe.keep K812 (allS Sf793 all0) Cr794.1 Sf793
 have Cr820 := Cr794.trans (CHr.keep K812 (allS Sf793 all0) Cr794.1)
 have O821 := O795.keep K812 (allS G262 all0)
 by_cases c314 : rp = 0
 ·
  have k80 : own_J p e below T805 m 330 #[.val (.long xv), .second, .val (.int lv), .val (.int pv), .val (.int hv), .val (.int fv), .val (.ref a30), .val (.long tv), .second, .val (.int nN), .val (.int pP), .val (.int cc), .val (.int rp), .val (.ref a260), .unset, .unset, .unset, .unset, .unset, .unset, .unset] [] B_ := fun t_ hh => k79 t_ (by
   refine XS.ifYes X807.here hx rfl (pc0 := 314) (pc' := 330) rfl (hb hby at_314) rfl (own_ifT_eq c314) (by decide) (by decide) ?_
   exact hh)
  clear k79
  have hbs8220 : own_bs tv [(nar .char dg283), (nar .char dg334), (nar .char dg384), (nar .char dg434), (nar .char dg484), (nar .char dg534), (nar .char dg584), (nar .char dg634), (nar .char dg684), (nar .char dg734), (nar .char dg784)] none := own_bs0 ht F284 F335 F385 F435 F485 F535 F585 F635 F685 F735 F785
  have hbs822 := hbs8220
  have hb824 : own_chs [(nar .char dg283), (nar .char dg334), (nar .char dg384), (nar .char dg434), (nar .char dg484), (nar .char dg534), (nar .char dg584), (nar .char dg634), (nar .char dg684), (nar .char dg734), (nar .char dg784)] := own_bs_chs ht hbs822 (fun j c q => nomatch q)
  have k81 : own_J p e below T805 m 334 #[.val (.long xv), .second, .val (.int lv), .val (.int pv), .val (.int hv), .val (.int fv), .val (.ref a30), .val (.long tv), .second, .val (.int nN), .val (.int pP), .val (.int cc), .val (.int rp), .val (.ref a260), .unset, .unset, .unset, .unset, .unset, .unset, .unset] [(.int nN), (.ref a260)] B_ := fun t_ hh => k80 t_ (by
   refine XS.aload X807.here hx rfl (hb hby at_330) rfl rfl ?_
   refine XS.iload X807.here hx rfl (hb hby at_332) rfl ?_
   exact hh)
  clear k80
  obtain ⟨_, _, ⟨T825, L826, k_827, n_828⟩, -, X829, hSc836, hgr837, ⟨Lc830, hQ831, l_832, y_833, z_834, C838⟩, st835⟩ := callSS X807 hx (y := (⟨"com/example/commitlog/commitlog/ConsumeQueuesQueueIdOfPinLaw", "make", "([CI)Ljava/lang/String;"⟩ : MethodName)) hown (mvT hZ (wT hw 20 rfl)) (mvT hZ (wT hw 21 rfl)) (mvT hZ (wT hw 18 rfl)) (mvT hZ (wT hw 22 rfl)) (by decide) (backOfSH (W := 0) (rmMk l Z a0 hw [] a260 kA253 nN (nar .char dg283) (nar .char dg334) (nar .char dg384) (nar .char dg434) (nar .char dg484) (nar .char dg534) (nar .char dg584) (nar .char dg634) (nar .char dg684) (nar .char dg734) (nar .char dg784) h806 n0 Z816 V814 hb824 hn O821 sA sH sL ci sC hc) hZ (wT hw 22 rfl) (wT hw 18 rfl) (by decide) (by decide) (own_EW hw) Cr820.1) (g := (mkF m 334 #[.val (.long xv), .second, .val (.int lv), .val (.int pv), .val (.int hv), .val (.int fv), .val (.ref a30), .val (.long tv), .second, .val (.int nN), .val (.int pP), .val (.int cc), .val (.int rp), .val (.ref a260), .unset, .unset, .unset, .unset, .unset, .unset, .unset] [(.int nN), (.ref a260)])) rfl (by rw [hml]; rfl) (argsL := [(.ref a260), (.int nN)]) (rest := []) (lenOf own_h822 rfl) rfl (by show 2 * 0 + _ ≤ _; exact Nat.le_of_eq rfl) (hb hby at_334) (fun _ _ => ⟨rfl, e808, own_l rfl, own_l rfl⟩)
  dsimp only [Pt.U, Pt.locs, Pt.cells, Pt.slots] at X829 hSc836 hgr837 l_832 y_833 z_834 st835 hQ831 C838
  replace l_832 := l_832.symm
  subst l_832 y_833 z_834
  obtain ⟨X839, hS840, hZ841, hown842⟩ := rebS hS0 (by rw [e808]; exact hk817) X829 hSc836 hgr837 hZ hown
  have Sf843 := C838.safe F815.lt Sf818
  have Sf844 := C838.safe V814.lt Sf819
  have Cr845 := Cr820.trans C838
  obtain ⟨r846, rfl, N847, K848, G849, E850, S851⟩ := hQ831
  have N852 := Fr.app N811 N847
  have F853 := F815.keep K848 nin0
  have F854 := V814.keep K848 nin0
  have Z855 : n0 ≤ T825.heap.size := Nat.le_trans Z816 K848.1
  have hk856 := Nat.le_trans hk817 K848.1
  have O857 := O821.keep K848 all0
  have e858 : T825.heap = T825.heap := rfl
  have k82 : own_J p e below T825 m 337 #[.val (.long xv), .second, .val (.int lv), .val (.int pv), .val (.int hv), .val (.int fv), .val (.ref a30), .val (.long tv), .second, .val (.int nN), .val (.int pP), .val (.int cc), .val (.int rp), .val (.ref a260), .unset, .unset, .unset, .unset, .unset, .unset, .unset] [(.ref r846)] B_ := fun t_ hh => k81 t_ (st835.trans hh)
  clear k81 st835 X807 e808
  obtain ⟨cs, ecs⟩ : ∃ z, z = (([(nar .char dg283), (nar .char dg334), (nar .char dg384), (nar .char dg434), (nar .char dg484), (nar .char dg534), (nar .char dg584), (nar .char dg634), (nar .char dg684), (nar .char dg734), (nar .char dg784)] : List Int32).drop (11 - nN.toInt.toNat)) := ⟨_, rfl⟩
  have hl : cs.length = nN.toInt.toNat := by rw [ecs, List.length_drop]; exact own_hl hn
  have hcs : own_chs cs := by rw [ecs]; exact own_chs_drop _ hb824
  have hS : own_S Z T825.heap r846 cs := by rw [ecs]; exact S851
  have k83 : own_J p e below T825 m 341 #[.val (.long xv), .second, .val (.int lv), .val (.int pv), .val (.int hv), .val (.int fv), .val (.ref a30), .val (.long tv), .second, .val (.int nN), .val (.int pP), .val (.int cc), .val (.int rp), .val (.ref a260), .val (.ref r846), .unset, .unset, .unset, .unset, .unset, .unset] [(.ref r846)] B_ := fun t_ hh => k82 t_ (by
   refine XS.astore X839.here hx rfl (hb hby at_337) rfl rfl (l' := #[.val (.long xv), .second, .val (.int lv), .val (.int pv), .val (.int hv), .val (.int fv), .val (.ref a30), .val (.long tv), .second, .val (.int nN), .val (.int pP), .val (.int cc), .val (.int rp), .val (.ref a260), .val (.ref r846), .unset, .unset, .unset, .unset, .unset, .unset]) rfl ?_
   refine XS.aload X839.here hx rfl (hb hby at_339) rfl rfl ?_
   exact hh)
  clear k82
  obtain ⟨_, _, ⟨T859, L860, k_861, n_862⟩, -, X863, ⟨Lc864, hQ865, l_866, y_867, z_868⟩, st869⟩ := Jvm.LawKit.callS X839 hx (y := (⟨"com/example/commitlog/commitlog/ConsumeQueues", "queueIdOf", "(Ljava/lang/String;)I"⟩ : MethodName)) hown842 (mvT hZ841 (wT hw 52 rfl)) (mvT hZ841 (wT hw 53 rfl)) (mvT hZ841 (wT hw 54 rfl)) (mvT hZ841 (wT hw 55 rfl)) (by decide) (backOf (W := 0) (rmQ l Z a0 hw [] r846 cs T825.heap n0 Z855 O857 (own_c11 hl hn) hcs hS ci sC hc gv sG hg sA sH sL) hZ841 (wT hw 55 rfl) (wT hw 54 rfl) (by decide) (by decide)) (g := (mkF m 341 #[.val (.long xv), .second, .val (.int lv), .val (.int pv), .val (.int hv), .val (.int fv), .val (.ref a30), .val (.long tv), .second, .val (.int nN), .val (.int pP), .val (.int cc), .val (.int rp), .val (.ref a260), .val (.ref r846), .unset, .unset, .unset, .unset, .unset, .unset] [(.ref r846)])) rfl (by rw [hml]; rfl) (argsL := [(.ref r846)]) (rest := []) (lenOf own_h823 rfl) rfl (by show 2 * 0 + _ ≤ _; exact Nat.le_of_eq rfl) (hb hby at_341) (fun _ _ => ⟨rfl, e858, own_l rfl, own_l rfl⟩)
  dsimp only [Pt.U, Pt.locs, Pt.cells, Pt.slots] at X863 l_866 y_867 z_868 st869 hQ865
  replace l_866 := l_866.symm
  subst l_866 y_867 z_868
  obtain ⟨rfl, N870, e871⟩ := hQ865
  have N872 := Fr.app N852 N870
  have k84 : own_J p e below T859 m 344 #[.val (.long xv), .second, .val (.int lv), .val (.int pv), .val (.int hv), .val (.int fv), .val (.ref a30), .val (.long tv), .second, .val (.int nN), .val (.int pP), .val (.int cc), .val (.int rp), .val (.ref a260), .val (.ref r846), .unset, .unset, .unset, .unset, .unset, .unset] [(.int (own_qid cs))] B_ := fun t_ hh => k83 t_ (st869 t_ hh)
  clear k83 st869 X839 e858
  have k85 : own_J p e below T859 m 348 #[.val (.long xv), .second, .val (.int lv), .val (.int pv), .val (.int hv), .val (.int fv), .val (.ref a30), .val (.long tv), .second, .val (.int nN), .val (.int pP), .val (.int cc), .val (.int rp), .val (.ref a260), .val (.ref r846), .val (.int (own_qid cs)), .unset, .unset, .unset, .unset, .unset] [(.int nN)] B_ := fun t_ hh => k84 t_ (by
   refine XS.istore X863.here hx rfl (hb hby at_344) rfl (l' := #[.val (.long xv), .second, .val (.int lv), .val (.int pv), .val (.int hv), .val (.int fv), .val (.ref a30), .val (.long tv), .second, .val (.int nN), .val (.int pP), .val (.int cc), .val (.int rp), .val (.ref a260), .val (.ref r846), .val (.int (own_qid cs)), .unset, .unset, .unset, .unset, .unset]) rfl ?_
   refine XS.iload X863.here hx rfl (hb hby at_346) rfl ?_
   exact hh)
  clear k84
  by_cases c348 : nN = 0
  ·
   have k86 : own_J p e below T859 m 520 #[.val (.long xv), .second, .val (.int lv), .val (.int pv), .val (.int hv), .val (.int fv), .val (.ref a30), .val (.long tv), .second, .val (.int nN), .val (.int pP), .val (.int cc), .val (.int rp), .val (.ref a260), .val (.ref r846), .val (.int (own_qid cs)), .val (.int (-1 : Int32)), .unset, .unset, .unset, .unset] [(.int (1 : Int32))] B_ := fun t_ hh => k85 t_ (by
    refine XS.ifYes X863.here hx rfl (pc0 := 348) (pc' := 358) rfl (hb hby at_348) rfl (own_ifT_eq c348) (by decide) (by decide) ?_
    refine XS.iconst X863.here hx rfl (hb hby at_358) ?_
    refine XS.istore X863.here hx rfl (hb hby at_359) rfl (l' := #[.val (.long xv), .second, .val (.int lv), .val (.int pv), .val (.int hv), .val (.int fv), .val (.ref a30), .val (.long tv), .second, .val (.int nN), .val (.int pP), .val (.int cc), .val (.int rp), .val (.ref a260), .val (.ref r846), .val (.int (own_qid cs)), .val (.int (-1 : Int32)), .unset, .unset, .unset, .unset]) rfl ?_
    refine XS.goto X863.here hx rfl (pc0 := 361) (pc' := 508) rfl (hb hby at_361) (by decide) (by decide) ?_
    refine XS.iload X863.here hx rfl (hb hby at_508) rfl ?_
    refine XS.iload X863.here hx rfl (hb hby at_510) rfl ?_
    refine XS.icmpNo X863.here hx rfl (hb hby at_512) rfl (own_icF_ne (own_qid_len (Or.inl (by rw [hl, c348]; rfl)))) ?_
    refine XS.iconst X863.here hx rfl (hb hby at_515) ?_
    refine XS.goto X863.here hx rfl (pc0 := 516) (pc' := 520) rfl (hb hby at_516) (by decide) (by decide) ?_
    exact hh)
   clear k85
   obtain ⟨fs, hr, hrun, hended, hEnd⟩ := X863.leaveW hS840 (by rw [e871]; exact (Nat.le_refl T825.heap.size)) (v := some (.int (1 : Int32))) (fun h => by rw [Bd.returns] at h; cases h)
   refine ⟨_, _, (own_from hB_ (k86 _ (retN X863 hx (t := .boolean) Bd.returns (by simp) (hb hby at_520) hr))), hrun, hended, _, _, rfl, ?_, hEnd.1, hEnd.2.1, hEnd.2.2.1, hEnd.2.2.2.mono (own_l rfl) (own_l rfl)⟩
   show QL h0 n0 _ T859.heap _
   rw [e871]
   exact ⟨rfl, N872⟩
  ·
   have k87 : own_J p e below T859 m 355 #[.val (.long xv), .second, .val (.int lv), .val (.int pv), .val (.int hv), .val (.int fv), .val (.ref a30), .val (.long tv), .second, .val (.int nN), .val (.int pP), .val (.int cc), .val (.int rp), .val (.ref a260), .val (.ref r846), .val (.int (own_qid cs)), .unset, .unset, .unset, .unset, .unset] [(.int (10 : Int32)), (.int nN)] B_ := fun t_ hh => k85 t_ (by
    refine XS.ifNo X863.here hx rfl (hb hby at_348) rfl (own_ifF_eq c348) ?_
    refine XS.iload X863.here hx rfl (hb hby at_351) rfl ?_
    refine XS.bipush X863.here hx rfl (hb hby at_353) ?_
    exact hh)
   clear k85
   by_cases c355 : (10 : Int32) < nN
   ·
    have k88 : own_J p e below T859 m 520 #[.val (.long xv), .second, .val (.int lv), .val (.int pv), .val (.int hv), .val (.int fv), .val (.ref a30), .val (.long tv), .second, .val (.int nN), .val (.int pP), .val (.int cc), .val (.int rp), .val (.ref a260), .val (.ref r846), .val (.int (own_qid cs)), .val (.int (-1 : Int32)), .unset, .unset, .unset, .unset] [(.int (1 : Int32))] B_ := fun t_ hh => k87 t_ (by
     refine XS.icmpNo X863.here hx rfl (hb hby at_355) rfl (own_icF_le c355) ?_
     refine XS.iconst X863.here hx rfl (hb hby at_358) ?_
     refine XS.istore X863.here hx rfl (hb hby at_359) rfl (l' := #[.val (.long xv), .second, .val (.int lv), .val (.int pv), .val (.int hv), .val (.int fv), .val (.ref a30), .val (.long tv), .second, .val (.int nN), .val (.int pP), .val (.int cc), .val (.int rp), .val (.ref a260), .val (.ref r846), .val (.int (own_qid cs)), .val (.int (-1 : Int32)), .unset, .unset, .unset, .unset]) rfl ?_
     refine XS.goto X863.here hx rfl (pc0 := 361) (pc' := 508) rfl (hb hby at_361) (by decide) (by decide) ?_
     refine XS.iload X863.here hx rfl (hb hby at_508) rfl ?_
     refine XS.iload X863.here hx rfl (hb hby at_510) rfl ?_
     refine XS.icmpNo X863.here hx rfl (hb hby at_512) rfl (own_icF_ne (own_qid_len (Or.inr (by rw [hl]; exact own_n10 hn c355)))) ?_
     refine XS.iconst X863.here hx rfl (hb hby at_515) ?_
     refine XS.goto X863.here hx rfl (pc0 := 516) (pc' := 520) rfl (hb hby at_516) (by decide) (by decide) ?_
     exact hh)
    clear k87
    obtain ⟨fs, hr, hrun, hended, hEnd⟩ := X863.leaveW hS840 (by rw [e871]; exact (Nat.le_refl T825.heap.size)) (v := some (.int (1 : Int32))) (fun h => by rw [Bd.returns] at h; cases h)
    refine ⟨_, _, (own_from hB_ (k88 _ (retN X863 hx (t := .boolean) Bd.returns (by simp) (hb hby at_520) hr))), hrun, hended, _, _, rfl, ?_, hEnd.1, hEnd.2.1, hEnd.2.2.1, hEnd.2.2.2.mono (own_l rfl) (own_l rfl)⟩
    show QL h0 n0 _ T859.heap _
    rw [e871]
    exact ⟨rfl, N872⟩
   ·
    have k89 : own_J p e below T859 m 364 #[.val (.long xv), .second, .val (.int lv), .val (.int pv), .val (.int hv), .val (.int fv), .val (.ref a30), .val (.long tv), .second, .val (.int nN), .val (.int pP), .val (.int cc), .val (.int rp), .val (.ref a260), .val (.ref r846), .val (.int (own_qid cs)), .unset, .unset, .unset, .unset, .unset] [] B_ := fun t_ hh => k87 t_ (by
     refine XS.icmpYes X863.here hx rfl (pc0 := 355) (pc' := 364) rfl (hb hby at_355) rfl (own_icT_le c355) (by decide) (by decide) ?_
     exact hh)
    clear k87
    obtain ⟨cd, hM873, k90⟩ : ∃ cd : Int32, ((cd = 0 ∧ ¬ own_dig cc) ∨ (cd = 1 ∧ own_dig cc)) ∧ own_J p e below T859 m 383 #[.val (.long xv), .second, .val (.int lv), .val (.int pv), .val (.int hv), .val (.int fv), .val (.ref a30), .val (.long tv), .second, .val (.int nN), .val (.int pP), .val (.int cc), .val (.int rp), .val (.ref a260), .val (.ref r846), .val (.int (own_qid cs)), .unset, .unset, .unset, .unset, .unset] [(.int cd)] B_ := by
     have k91 : own_J p e below T859 m 368 #[.val (.long xv), .second, .val (.int lv), .val (.int pv), .val (.int hv), .val (.int fv), .val (.ref a30), .val (.long tv), .second, .val (.int nN), .val (.int pP), .val (.int cc), .val (.int rp), .val (.ref a260), .val (.ref r846), .val (.int (own_qid cs)), .unset, .unset, .unset, .unset, .unset] [(.int (48 : Int32)), (.int cc)] B_ := fun t_ hh => k89 t_ (by
      refine XS.iload X863.here hx rfl (hb hby at_364) rfl ?_
      refine XS.bipush X863.here hx rfl (hb hby at_366) ?_
      exact hh)
     clear k89
     by_cases c368 : cc < (48 : Int32)
     ·
      have k92 : own_J p e below T859 m 383 #[.val (.long xv), .second, .val (.int lv), .val (.int pv), .val (.int hv), .val (.int fv), .val (.ref a30), .val (.long tv), .second, .val (.int nN), .val (.int pP), .val (.int cc), .val (.int rp), .val (.ref a260), .val (.ref r846), .val (.int (own_qid cs)), .unset, .unset, .unset, .unset, .unset] [(.int (0 : Int32))] B_ := fun t_ hh => k91 t_ (by
       refine XS.icmpYes X863.here hx rfl (pc0 := 368) (pc' := 382) rfl (hb hby at_368) rfl (own_icT_lt c368) (by decide) (by decide) ?_
       refine XS.iconst X863.here hx rfl (hb hby at_382) ?_
       exact hh)
      clear k91
      exact ⟨(0 : Int32), (Or.inl ⟨rfl, own_nd1 c368⟩), k92⟩
     ·
      have k93 : own_J p e below T859 m 375 #[.val (.long xv), .second, .val (.int lv), .val (.int pv), .val (.int hv), .val (.int fv), .val (.ref a30), .val (.long tv), .second, .val (.int nN), .val (.int pP), .val (.int cc), .val (.int rp), .val (.ref a260), .val (.ref r846), .val (.int (own_qid cs)), .unset, .unset, .unset, .unset, .unset] [(.int (57 : Int32)), (.int cc)] B_ := fun t_ hh => k91 t_ (by
       refine XS.icmpNo X863.here hx rfl (hb hby at_368) rfl (own_icF_lt c368) ?_
       refine XS.iload X863.here hx rfl (hb hby at_371) rfl ?_
       refine XS.bipush X863.here hx rfl (hb hby at_373) ?_
       exact hh)
      clear k91
      by_cases c375 : (57 : Int32) < cc
      ·
       have k94 : own_J p e below T859 m 383 #[.val (.long xv), .second, .val (.int lv), .val (.int pv), .val (.int hv), .val (.int fv), .val (.ref a30), .val (.long tv), .second, .val (.int nN), .val (.int pP), .val (.int cc), .val (.int rp), .val (.ref a260), .val (.ref r846), .val (.int (own_qid cs)), .unset, .unset, .unset, .unset, .unset] [(.int (0 : Int32))] B_ := fun t_ hh => k93 t_ (by
        refine XS.icmpYes X863.here hx rfl (pc0 := 375) (pc' := 382) rfl (hb hby at_375) rfl (own_icT_gt c375) (by decide) (by decide) ?_
        refine XS.iconst X863.here hx rfl (hb hby at_382) ?_
        exact hh)
       clear k93
       exact ⟨(0 : Int32), (Or.inl ⟨rfl, own_nd2 c375⟩), k94⟩
      ·
       have k95 : own_J p e below T859 m 383 #[.val (.long xv), .second, .val (.int lv), .val (.int pv), .val (.int hv), .val (.int fv), .val (.ref a30), .val (.long tv), .second, .val (.int nN), .val (.int pP), .val (.int cc), .val (.int rp), .val (.ref a260), .val (.ref r846), .val (.int (own_qid cs)), .unset, .unset, .unset, .unset, .unset] [(.int (1 : Int32))] B_ := fun t_ hh => k93 t_ (by
        refine XS.icmpNo X863.here hx rfl (hb hby at_375) rfl (own_icF_gt c375) ?_
        refine XS.iconst X863.here hx rfl (hb hby at_378) ?_
        refine XS.goto X863.here hx rfl (pc0 := 379) (pc' := 383) rfl (hb hby at_379) (by decide) (by decide) ?_
        exact hh)
       clear k93
       exact ⟨(1 : Int32), (Or.inr ⟨rfl, own_dig_of c368 c375⟩), k95⟩
    have hcd := hM873
    have k96 : own_J p e below T859 m 475 #[.val (.long xv), .second, .val (.int lv), .val (.int pv), .val (.int hv), .val (.int fv), .val (.ref a30), .val (.long tv), .second, .val (.int nN), .val (.int pP), .val (.int cc), .val (.int rp), .val (.ref a260), .val (.ref r846), .val (.int (own_qid cs)), .unset, .val (.int cd), .val (.long (tv - (tv / (own_pw nN)) * (own_pw nN))), .second, .val (.int (([(nar .char dg283), (nar .char dg334), (nar .char dg384), (nar .char dg434), (nar .char dg484), (nar .char dg534), (nar .char dg584), (nar .char dg634), (nar .char dg684), (nar .char dg734), (nar .char dg784)] : List Int32).getD (11 - nN.toInt.toNat) 0))] [(.int (48 : Int32)), (.int (([(nar .char dg283), (nar .char dg334), (nar .char dg384), (nar .char dg434), (nar .char dg484), (nar .char dg534), (nar .char dg584), (nar .char dg634), (nar .char dg684), (nar .char dg734), (nar .char dg784)] : List Int32).getD (11 - nN.toInt.toNat) 0))] B_ := fun t_ hh => k90 t_ (by
     refine XS.istore X863.here hx rfl (hb hby at_383) rfl (l' := #[.val (.long xv), .second, .val (.int lv), .val (.int pv), .val (.int hv), .val (.int fv), .val (.ref a30), .val (.long tv), .second, .val (.int nN), .val (.int pP), .val (.int cc), .val (.int rp), .val (.ref a260), .val (.ref r846), .val (.int (own_qid cs)), .unset, .val (.int cd), .unset, .unset, .unset]) rfl ?_
     refine XS.iload X863.here hx rfl (hb hby at_385) rfl ?_
     refine XS.ifYes X863.here hx rfl (pc0 := 387) (pc' := 401) rfl (hb hby at_387) rfl (own_ifT_eq c314) (by decide) (by decide) ?_
     refine XS.lload X863.here hx rfl (hb hby at_401) rfl ?_
     refine XS.aload X863.here hx rfl (hb hby at_403) rfl rfl ?_
     refine XS.iload X863.here hx rfl (hb hby at_405) rfl ?_
     refine own_laload X863 hx hZ841 e871 F853 (j := nN) (v := (.long (own_pw nN))) ⟨(own_ge0 hn), (own_lt12 hn)⟩ (own_pw_at hn.1 hn.2) (g := (mkF m 407 #[.val (.long xv), .second, .val (.int lv), .val (.int pv), .val (.int hv), .val (.int fv), .val (.ref a30), .val (.long tv), .second, .val (.int nN), .val (.int pP), .val (.int cc), .val (.int rp), .val (.ref a260), .val (.ref r846), .val (.int (own_qid cs)), .unset, .val (.int cd), .unset, .unset, .unset] [(.int nN), (.ref a30), (.long tv)])) rfl rfl (hb hby at_407) _ ?_
     refine XS.lrem X863.here hx rfl (hb hby at_408) rfl (own_pw_ne hn.1 hn.2).1 ?_
     refine XS.lstore X863.here hx rfl (hb hby at_409) rfl (l' := #[.val (.long xv), .second, .val (.int lv), .val (.int pv), .val (.int hv), .val (.int fv), .val (.ref a30), .val (.long tv), .second, .val (.int nN), .val (.int pP), .val (.int cc), .val (.int rp), .val (.ref a260), .val (.ref r846), .val (.int (own_qid cs)), .unset, .val (.int cd), .val (.long (tv - (tv / (own_pw nN)) * (own_pw nN))), .second, .unset]) rfl ?_
     refine XS.iload X863.here hx rfl (hb hby at_411) rfl ?_
     refine XS.ifYes X863.here hx rfl (pc0 := 413) (pc' := 461) rfl (hb hby at_413) rfl (own_ifT_eq c314) (by decide) (by decide) ?_
     refine XS.aload X863.here hx rfl (hb hby at_461) rfl rfl ?_
     show Steps p.tables e below (T859.setTop (mkF m 463 #[.val (.long xv), .second, .val (.int lv), .val (.int pv), .val (.int hv), .val (.int fv), .val (.ref a30), .val (.long tv), .second, .val (.int nN), .val (.int pP), .val (.int cc), .val (.int rp), .val (.ref a260), .val (.ref r846), .val (.int (own_qid cs)), .unset, .val (.int cd), .val (.long (tv - (tv / (own_pw nN)) * (own_pw nN))), .second, .unset] [(.ref a260)])) _
     refine XS.bipush X863.here hx rfl (hb hby at_463) ?_
     refine XS.iload X863.here hx rfl (hb hby at_465) rfl ?_
     refine XS.isub X863.here hx rfl (hb hby at_467) rfl ?_
     refine own_caload X863 hx hZ841 e871 F854 (j := ((11 : Int32) - nN)) (v := (.int (([(nar .char dg283), (nar .char dg334), (nar .char dg384), (nar .char dg434), (nar .char dg484), (nar .char dg534), (nar .char dg584), (nar .char dg634), (nar .char dg684), (nar .char dg734), (nar .char dg784)] : List Int32).getD (11 - nN.toInt.toNat) 0))) (own_inb0 hn c348) (own_at0 [(nar .char dg283), (nar .char dg334), (nar .char dg384), (nar .char dg434), (nar .char dg484), (nar .char dg534), (nar .char dg584), (nar .char dg634), (nar .char dg684), (nar .char dg734), (nar .char dg784)] hn) (g := (mkF m 468 #[.val (.long xv), .second, .val (.int lv), .val (.int pv), .val (.int hv), .val (.int fv), .val (.ref a30), .val (.long tv), .second, .val (.int nN), .val (.int pP), .val (.int cc), .val (.int rp), .val (.ref a260), .val (.ref r846), .val (.int (own_qid cs)), .unset, .val (.int cd), .val (.long (tv - (tv / (own_pw nN)) * (own_pw nN))), .second, .unset] [(.int ((11 : Int32) - nN)), (.ref a260)])) rfl rfl (hb hby at_468) _ ?_
     refine XS.istore X863.here hx rfl (hb hby at_469) rfl (l' := #[.val (.long xv), .second, .val (.int lv), .val (.int pv), .val (.int hv), .val (.int fv), .val (.ref a30), .val (.long tv), .second, .val (.int nN), .val (.int pP), .val (.int cc), .val (.int rp), .val (.ref a260), .val (.ref r846), .val (.int (own_qid cs)), .unset, .val (.int cd), .val (.long (tv - (tv / (own_pw nN)) * (own_pw nN))), .second, .val (.int (([(nar .char dg283), (nar .char dg334), (nar .char dg384), (nar .char dg434), (nar .char dg484), (nar .char dg534), (nar .char dg584), (nar .char dg634), (nar .char dg684), (nar .char dg734), (nar .char dg784)] : List Int32).getD (11 - nN.toInt.toNat) 0))]) rfl ?_
     refine XS.iload X863.here hx rfl (hb hby at_471) rfl ?_
     refine XS.bipush X863.here hx rfl (hb hby at_473) ?_
     exact hh)
    clear k90
    by_cases c475 : (([(nar .char dg283), (nar .char dg334), (nar .char dg384), (nar .char dg434), (nar .char dg484), (nar .char dg534), (nar .char dg584), (nar .char dg634), (nar .char dg684), (nar .char dg734), (nar .char dg784)] : List Int32).getD (11 - nN.toInt.toNat) 0) = (48 : Int32)
    ·
     have k97 : own_J p e below T859 m 481 #[.val (.long xv), .second, .val (.int lv), .val (.int pv), .val (.int hv), .val (.int fv), .val (.ref a30), .val (.long tv), .second, .val (.int nN), .val (.int pP), .val (.int cc), .val (.int rp), .val (.ref a260), .val (.ref r846), .val (.int (own_qid cs)), .unset, .val (.int cd), .val (.long (tv - (tv / (own_pw nN)) * (own_pw nN))), .second, .val (.int (([(nar .char dg283), (nar .char dg334), (nar .char dg384), (nar .char dg434), (nar .char dg484), (nar .char dg534), (nar .char dg584), (nar .char dg634), (nar .char dg684), (nar .char dg734), (nar .char dg784)] : List Int32).getD (11 - nN.toInt.toNat) 0))] [(.int (1 : Int32)), (.int nN)] B_ := fun t_ hh => k96 t_ (by
      refine XS.icmpNo X863.here hx rfl (hb hby at_475) rfl (own_icF_ne c475) ?_
      refine XS.iload X863.here hx rfl (hb hby at_478) rfl ?_
      refine XS.iconst X863.here hx rfl (hb hby at_480) ?_
      exact hh)
     clear k96
     by_cases c481 : (1 : Int32) < nN
     ·
      have k98 : own_J p e below T859 m 520 #[.val (.long xv), .second, .val (.int lv), .val (.int pv), .val (.int hv), .val (.int fv), .val (.ref a30), .val (.long tv), .second, .val (.int nN), .val (.int pP), .val (.int cc), .val (.int rp), .val (.ref a260), .val (.ref r846), .val (.int (own_qid cs)), .val (.int (-1 : Int32)), .val (.int cd), .val (.long (tv - (tv / (own_pw nN)) * (own_pw nN))), .second, .val (.int (([(nar .char dg283), (nar .char dg334), (nar .char dg384), (nar .char dg434), (nar .char dg484), (nar .char dg534), (nar .char dg584), (nar .char dg634), (nar .char dg684), (nar .char dg734), (nar .char dg784)] : List Int32).getD (11 - nN.toInt.toNat) 0))] [(.int (1 : Int32))] B_ := fun t_ hh => k97 t_ (by
       refine XS.icmpNo X863.here hx rfl (hb hby at_481) rfl (own_icF_le c481) ?_
       refine XS.iconst X863.here hx rfl (hb hby at_484) ?_
       refine XS.istore X863.here hx rfl (hb hby at_485) rfl (l' := #[.val (.long xv), .second, .val (.int lv), .val (.int pv), .val (.int hv), .val (.int fv), .val (.ref a30), .val (.long tv), .second, .val (.int nN), .val (.int pP), .val (.int cc), .val (.int rp), .val (.ref a260), .val (.ref r846), .val (.int (own_qid cs)), .val (.int (-1 : Int32)), .val (.int cd), .val (.long (tv - (tv / (own_pw nN)) * (own_pw nN))), .second, .val (.int (([(nar .char dg283), (nar .char dg334), (nar .char dg384), (nar .char dg434), (nar .char dg484), (nar .char dg534), (nar .char dg584), (nar .char dg634), (nar .char dg684), (nar .char dg734), (nar .char dg784)] : List Int32).getD (11 - nN.toInt.toNat) 0))]) rfl ?_
       refine XS.goto X863.here hx rfl (pc0 := 487) (pc' := 508) rfl (hb hby at_487) (by decide) (by decide) ?_
       refine XS.iload X863.here hx rfl (hb hby at_508) rfl ?_
       refine XS.iload X863.here hx rfl (hb hby at_510) rfl ?_
       refine XS.icmpNo X863.here hx rfl (hb hby at_512) rfl (own_icF_ne (own_qid_zero (by rw [ecs]; exact own_head hn c348 c475) (by rw [hl]; exact own_n1 hn c481))) ?_
       refine XS.iconst X863.here hx rfl (hb hby at_515) ?_
       refine XS.goto X863.here hx rfl (pc0 := 516) (pc' := 520) rfl (hb hby at_516) (by decide) (by decide) ?_
       exact hh)
      clear k97
      obtain ⟨fs, hr, hrun, hended, hEnd⟩ := X863.leaveW hS840 (by rw [e871]; exact (Nat.le_refl T825.heap.size)) (v := some (.int (1 : Int32))) (fun h => by rw [Bd.returns] at h; cases h)
      refine ⟨_, _, (own_from hB_ (k98 _ (retN X863 hx (t := .boolean) Bd.returns (by simp) (hb hby at_520) hr))), hrun, hended, _, _, rfl, ?_, hEnd.1, hEnd.2.1, hEnd.2.2.1, hEnd.2.2.2.mono (own_l rfl) (own_l rfl)⟩
      show QL h0 n0 _ T859.heap _
      rw [e871]
      exact ⟨rfl, N872⟩
     ·
      have k99 : own_J p e below T859 m 496 #[.val (.long xv), .second, .val (.int lv), .val (.int pv), .val (.int hv), .val (.int fv), .val (.ref a30), .val (.long tv), .second, .val (.int nN), .val (.int pP), .val (.int cc), .val (.int rp), .val (.ref a260), .val (.ref r846), .val (.int (own_qid cs)), .unset, .val (.int cd), .val (.long (tv - (tv / (own_pw nN)) * (own_pw nN))), .second, .val (.int (([(nar .char dg283), (nar .char dg334), (nar .char dg384), (nar .char dg434), (nar .char dg484), (nar .char dg534), (nar .char dg584), (nar .char dg634), (nar .char dg684), (nar .char dg734), (nar .char dg784)] : List Int32).getD (11 - nN.toInt.toNat) 0))] [(.int (lcmpW (tv - (tv / (own_pw nN)) * (own_pw nN)) (2147483647 : Int64)))] B_ := fun t_ hh => k97 t_ (by
       refine XS.icmpYes X863.here hx rfl (pc0 := 481) (pc' := 490) rfl (hb hby at_481) rfl (own_icT_le c481) (by decide) (by decide) ?_
       refine XS.lload X863.here hx rfl (hb hby at_490) rfl ?_
       refine X863.ldc2Long hx hown842 (mvT hZ841 (wT hw 120 rfl)) (g := (mkF m 492 #[.val (.long xv), .second, .val (.int lv), .val (.int pv), .val (.int hv), .val (.int fv), .val (.ref a30), .val (.long tv), .second, .val (.int nN), .val (.int pP), .val (.int cc), .val (.int rp), .val (.ref a260), .val (.ref r846), .val (.int (own_qid cs)), .unset, .val (.int cd), .val (.long (tv - (tv / (own_pw nN)) * (own_pw nN))), .second, .val (.int (([(nar .char dg283), (nar .char dg334), (nar .char dg384), (nar .char dg434), (nar .char dg484), (nar .char dg534), (nar .char dg584), (nar .char dg634), (nar .char dg684), (nar .char dg734), (nar .char dg784)] : List Int32).getD (11 - nN.toInt.toNat) 0))] [(.long (tv - (tv / (own_pw nN)) * (own_pw nN)))])) rfl (hb hby at_492) _ ?_
       refine XS.lcmp X863.here hx rfl (hb hby at_495) rfl ?_
       exact hh)
      clear k97
      by_cases c496 : 0 < (lcmpW (tv - (tv / (own_pw nN)) * (own_pw nN)) (2147483647 : Int64))
      ·
       have k100 : own_J p e below T859 m 520 #[.val (.long xv), .second, .val (.int lv), .val (.int pv), .val (.int hv), .val (.int fv), .val (.ref a30), .val (.long tv), .second, .val (.int nN), .val (.int pP), .val (.int cc), .val (.int rp), .val (.ref a260), .val (.ref r846), .val (.int (own_qid cs)), .val (.int (-1 : Int32)), .val (.int cd), .val (.long (tv - (tv / (own_pw nN)) * (own_pw nN))), .second, .val (.int (([(nar .char dg283), (nar .char dg334), (nar .char dg384), (nar .char dg434), (nar .char dg484), (nar .char dg534), (nar .char dg584), (nar .char dg634), (nar .char dg684), (nar .char dg734), (nar .char dg784)] : List Int32).getD (11 - nN.toInt.toNat) 0))] [(.int (1 : Int32))] B_ := fun t_ hh => k99 t_ (by
        refine XS.ifYes X863.here hx rfl (pc0 := 496) (pc' := 505) rfl (hb hby at_496) rfl (own_ifT_gt c496) (by decide) (by decide) ?_
        refine XS.iconst X863.here hx rfl (hb hby at_505) ?_
        refine XS.istore X863.here hx rfl (hb hby at_506) rfl (l' := #[.val (.long xv), .second, .val (.int lv), .val (.int pv), .val (.int hv), .val (.int fv), .val (.ref a30), .val (.long tv), .second, .val (.int nN), .val (.int pP), .val (.int cc), .val (.int rp), .val (.ref a260), .val (.ref r846), .val (.int (own_qid cs)), .val (.int (-1 : Int32)), .val (.int cd), .val (.long (tv - (tv / (own_pw nN)) * (own_pw nN))), .second, .val (.int (([(nar .char dg283), (nar .char dg334), (nar .char dg384), (nar .char dg434), (nar .char dg484), (nar .char dg534), (nar .char dg584), (nar .char dg634), (nar .char dg684), (nar .char dg734), (nar .char dg784)] : List Int32).getD (11 - nN.toInt.toNat) 0))]) rfl ?_
        refine XS.iload X863.here hx rfl (hb hby at_508) rfl ?_
        refine XS.iload X863.here hx rfl (hb hby at_510) rfl ?_
        refine XS.icmpNo X863.here hx rfl (hb hby at_512) rfl (own_icF_ne ((own_fin (own_npos hl hn c348) (own_nle hl hn c355) (fun z => c481 (own_n1r hn (by rw [← hl]; exact z.2))) (own_digs (t := tv) ht ecs hbs822 hl hn trivial) (own_vnone ht hbs822 hn c355 ecs hl)).trans (if_pos c496))) ?_
        refine XS.iconst X863.here hx rfl (hb hby at_515) ?_
        refine XS.goto X863.here hx rfl (pc0 := 516) (pc' := 520) rfl (hb hby at_516) (by decide) (by decide) ?_
        exact hh)
       clear k99
       obtain ⟨fs, hr, hrun, hended, hEnd⟩ := X863.leaveW hS840 (by rw [e871]; exact (Nat.le_refl T825.heap.size)) (v := some (.int (1 : Int32))) (fun h => by rw [Bd.returns] at h; cases h)
       refine ⟨_, _, (own_from hB_ (k100 _ (retN X863 hx (t := .boolean) Bd.returns (by simp) (hb hby at_520) hr))), hrun, hended, _, _, rfl, ?_, hEnd.1, hEnd.2.1, hEnd.2.2.1, hEnd.2.2.2.mono (own_l rfl) (own_l rfl)⟩
       show QL h0 n0 _ T859.heap _
       rw [e871]
       exact ⟨rfl, N872⟩
      ·
       have k101 : own_J p e below T859 m 520 #[.val (.long xv), .second, .val (.int lv), .val (.int pv), .val (.int hv), .val (.int fv), .val (.ref a30), .val (.long tv), .second, .val (.int nN), .val (.int pP), .val (.int cc), .val (.int rp), .val (.ref a260), .val (.ref r846), .val (.int (own_qid cs)), .val (.int ((tv - (tv / (own_pw nN)) * (own_pw nN)).toInt32)), .val (.int cd), .val (.long (tv - (tv / (own_pw nN)) * (own_pw nN))), .second, .val (.int (([(nar .char dg283), (nar .char dg334), (nar .char dg384), (nar .char dg434), (nar .char dg484), (nar .char dg534), (nar .char dg584), (nar .char dg634), (nar .char dg684), (nar .char dg734), (nar .char dg784)] : List Int32).getD (11 - nN.toInt.toNat) 0))] [(.int (1 : Int32))] B_ := fun t_ hh => k99 t_ (by
        refine XS.ifNo X863.here hx rfl (hb hby at_496) rfl (own_ifF_gt c496) ?_
        refine XS.lload X863.here hx rfl (hb hby at_499) rfl ?_
        refine XS.l2i X863.here hx rfl (hb hby at_501) rfl ?_
        refine XS.goto X863.here hx rfl (pc0 := 502) (pc' := 506) rfl (hb hby at_502) (by decide) (by decide) ?_
        refine XS.istore X863.here hx rfl (hb hby at_506) rfl (l' := #[.val (.long xv), .second, .val (.int lv), .val (.int pv), .val (.int hv), .val (.int fv), .val (.ref a30), .val (.long tv), .second, .val (.int nN), .val (.int pP), .val (.int cc), .val (.int rp), .val (.ref a260), .val (.ref r846), .val (.int (own_qid cs)), .val (.int ((tv - (tv / (own_pw nN)) * (own_pw nN)).toInt32)), .val (.int cd), .val (.long (tv - (tv / (own_pw nN)) * (own_pw nN))), .second, .val (.int (([(nar .char dg283), (nar .char dg334), (nar .char dg384), (nar .char dg434), (nar .char dg484), (nar .char dg534), (nar .char dg584), (nar .char dg634), (nar .char dg684), (nar .char dg734), (nar .char dg784)] : List Int32).getD (11 - nN.toInt.toNat) 0))]) rfl ?_
        refine XS.iload X863.here hx rfl (hb hby at_508) rfl ?_
        refine XS.iload X863.here hx rfl (hb hby at_510) rfl ?_
        refine XS.icmpNo X863.here hx rfl (hb hby at_512) rfl (own_icF_ne ((own_fin (own_npos hl hn c348) (own_nle hl hn c355) (fun z => c481 (own_n1r hn (by rw [← hl]; exact z.2))) (own_digs (t := tv) ht ecs hbs822 hl hn trivial) (own_vnone ht hbs822 hn c355 ecs hl)).trans (if_neg c496))) ?_
        refine XS.iconst X863.here hx rfl (hb hby at_515) ?_
        refine XS.goto X863.here hx rfl (pc0 := 516) (pc' := 520) rfl (hb hby at_516) (by decide) (by decide) ?_
        exact hh)
       clear k99
       obtain ⟨fs, hr, hrun, hended, hEnd⟩ := X863.leaveW hS840 (by rw [e871]; exact (Nat.le_refl T825.heap.size)) (v := some (.int (1 : Int32))) (fun h => by rw [Bd.returns] at h; cases h)
       refine ⟨_, _, (own_from hB_ (k101 _ (retN X863 hx (t := .boolean) Bd.returns (by simp) (hb hby at_520) hr))), hrun, hended, _, _, rfl, ?_, hEnd.1, hEnd.2.1, hEnd.2.2.1, hEnd.2.2.2.mono (own_l rfl) (own_l rfl)⟩
       show QL h0 n0 _ T859.heap _
       rw [e871]
       exact ⟨rfl, N872⟩
    ·
     have k102 : own_J p e below T859 m 496 #[.val (.long xv), .second, .val (.int lv), .val (.int pv), .val (.int hv), .val (.int fv), .val (.ref a30), .val (.long tv), .second, .val (.int nN), .val (.int pP), .val (.int cc), .val (.int rp), .val (.ref a260), .val (.ref r846), .val (.int (own_qid cs)), .unset, .val (.int cd), .val (.long (tv - (tv / (own_pw nN)) * (own_pw nN))), .second, .val (.int (([(nar .char dg283), (nar .char dg334), (nar .char dg384), (nar .char dg434), (nar .char dg484), (nar .char dg534), (nar .char dg584), (nar .char dg634), (nar .char dg684), (nar .char dg734), (nar .char dg784)] : List Int32).getD (11 - nN.toInt.toNat) 0))] [(.int (lcmpW (tv - (tv / (own_pw nN)) * (own_pw nN)) (2147483647 : Int64)))] B_ := fun t_ hh => k96 t_ (by
      refine XS.icmpYes X863.here hx rfl (pc0 := 475) (pc' := 490) rfl (hb hby at_475) rfl (own_icT_ne c475) (by decide) (by decide) ?_
      refine XS.lload X863.here hx rfl (hb hby at_490) rfl ?_
      refine X863.ldc2Long hx hown842 (mvT hZ841 (wT hw 120 rfl)) (g := (mkF m 492 #[.val (.long xv), .second, .val (.int lv), .val (.int pv), .val (.int hv), .val (.int fv), .val (.ref a30), .val (.long tv), .second, .val (.int nN), .val (.int pP), .val (.int cc), .val (.int rp), .val (.ref a260), .val (.ref r846), .val (.int (own_qid cs)), .unset, .val (.int cd), .val (.long (tv - (tv / (own_pw nN)) * (own_pw nN))), .second, .val (.int (([(nar .char dg283), (nar .char dg334), (nar .char dg384), (nar .char dg434), (nar .char dg484), (nar .char dg534), (nar .char dg584), (nar .char dg634), (nar .char dg684), (nar .char dg734), (nar .char dg784)] : List Int32).getD (11 - nN.toInt.toNat) 0))] [(.long (tv - (tv / (own_pw nN)) * (own_pw nN)))])) rfl (hb hby at_492) _ ?_
      refine XS.lcmp X863.here hx rfl (hb hby at_495) rfl ?_
      exact hh)
     clear k96
     by_cases c496 : 0 < (lcmpW (tv - (tv / (own_pw nN)) * (own_pw nN)) (2147483647 : Int64))
     ·
      have k103 : own_J p e below T859 m 520 #[.val (.long xv), .second, .val (.int lv), .val (.int pv), .val (.int hv), .val (.int fv), .val (.ref a30), .val (.long tv), .second, .val (.int nN), .val (.int pP), .val (.int cc), .val (.int rp), .val (.ref a260), .val (.ref r846), .val (.int (own_qid cs)), .val (.int (-1 : Int32)), .val (.int cd), .val (.long (tv - (tv / (own_pw nN)) * (own_pw nN))), .second, .val (.int (([(nar .char dg283), (nar .char dg334), (nar .char dg384), (nar .char dg434), (nar .char dg484), (nar .char dg534), (nar .char dg584), (nar .char dg634), (nar .char dg684), (nar .char dg734), (nar .char dg784)] : List Int32).getD (11 - nN.toInt.toNat) 0))] [(.int (1 : Int32))] B_ := fun t_ hh => k102 t_ (by
       refine XS.ifYes X863.here hx rfl (pc0 := 496) (pc' := 505) rfl (hb hby at_496) rfl (own_ifT_gt c496) (by decide) (by decide) ?_
       refine XS.iconst X863.here hx rfl (hb hby at_505) ?_
       refine XS.istore X863.here hx rfl (hb hby at_506) rfl (l' := #[.val (.long xv), .second, .val (.int lv), .val (.int pv), .val (.int hv), .val (.int fv), .val (.ref a30), .val (.long tv), .second, .val (.int nN), .val (.int pP), .val (.int cc), .val (.int rp), .val (.ref a260), .val (.ref r846), .val (.int (own_qid cs)), .val (.int (-1 : Int32)), .val (.int cd), .val (.long (tv - (tv / (own_pw nN)) * (own_pw nN))), .second, .val (.int (([(nar .char dg283), (nar .char dg334), (nar .char dg384), (nar .char dg434), (nar .char dg484), (nar .char dg534), (nar .char dg584), (nar .char dg634), (nar .char dg684), (nar .char dg734), (nar .char dg784)] : List Int32).getD (11 - nN.toInt.toNat) 0))]) rfl ?_
       refine XS.iload X863.here hx rfl (hb hby at_508) rfl ?_
       refine XS.iload X863.here hx rfl (hb hby at_510) rfl ?_
       refine XS.icmpNo X863.here hx rfl (hb hby at_512) rfl (own_icF_ne ((own_fin (own_npos hl hn c348) (own_nle hl hn c355) (fun z => c475 (by rw [← own_head_eq (bs := [(nar .char dg283), (nar .char dg334), (nar .char dg384), (nar .char dg434), (nar .char dg484), (nar .char dg534), (nar .char dg584), (nar .char dg634), (nar .char dg684), (nar .char dg734), (nar .char dg784)]) hn c348]; rw [ecs] at z; exact z.1)) (own_digs (t := tv) ht ecs hbs822 hl hn trivial) (own_vnone ht hbs822 hn c355 ecs hl)).trans (if_pos c496))) ?_
       refine XS.iconst X863.here hx rfl (hb hby at_515) ?_
       refine XS.goto X863.here hx rfl (pc0 := 516) (pc' := 520) rfl (hb hby at_516) (by decide) (by decide) ?_
       exact hh)
      clear k102
      obtain ⟨fs, hr, hrun, hended, hEnd⟩ := X863.leaveW hS840 (by rw [e871]; exact (Nat.le_refl T825.heap.size)) (v := some (.int (1 : Int32))) (fun h => by rw [Bd.returns] at h; cases h)
      refine ⟨_, _, (own_from hB_ (k103 _ (retN X863 hx (t := .boolean) Bd.returns (by simp) (hb hby at_520) hr))), hrun, hended, _, _, rfl, ?_, hEnd.1, hEnd.2.1, hEnd.2.2.1, hEnd.2.2.2.mono (own_l rfl) (own_l rfl)⟩
      show QL h0 n0 _ T859.heap _
      rw [e871]
      exact ⟨rfl, N872⟩
     ·
      have k104 : own_J p e below T859 m 520 #[.val (.long xv), .second, .val (.int lv), .val (.int pv), .val (.int hv), .val (.int fv), .val (.ref a30), .val (.long tv), .second, .val (.int nN), .val (.int pP), .val (.int cc), .val (.int rp), .val (.ref a260), .val (.ref r846), .val (.int (own_qid cs)), .val (.int ((tv - (tv / (own_pw nN)) * (own_pw nN)).toInt32)), .val (.int cd), .val (.long (tv - (tv / (own_pw nN)) * (own_pw nN))), .second, .val (.int (([(nar .char dg283), (nar .char dg334), (nar .char dg384), (nar .char dg434), (nar .char dg484), (nar .char dg534), (nar .char dg584), (nar .char dg634), (nar .char dg684), (nar .char dg734), (nar .char dg784)] : List Int32).getD (11 - nN.toInt.toNat) 0))] [(.int (1 : Int32))] B_ := fun t_ hh => k102 t_ (by
       refine XS.ifNo X863.here hx rfl (hb hby at_496) rfl (own_ifF_gt c496) ?_
       refine XS.lload X863.here hx rfl (hb hby at_499) rfl ?_
       refine XS.l2i X863.here hx rfl (hb hby at_501) rfl ?_
       refine XS.goto X863.here hx rfl (pc0 := 502) (pc' := 506) rfl (hb hby at_502) (by decide) (by decide) ?_
       refine XS.istore X863.here hx rfl (hb hby at_506) rfl (l' := #[.val (.long xv), .second, .val (.int lv), .val (.int pv), .val (.int hv), .val (.int fv), .val (.ref a30), .val (.long tv), .second, .val (.int nN), .val (.int pP), .val (.int cc), .val (.int rp), .val (.ref a260), .val (.ref r846), .val (.int (own_qid cs)), .val (.int ((tv - (tv / (own_pw nN)) * (own_pw nN)).toInt32)), .val (.int cd), .val (.long (tv - (tv / (own_pw nN)) * (own_pw nN))), .second, .val (.int (([(nar .char dg283), (nar .char dg334), (nar .char dg384), (nar .char dg434), (nar .char dg484), (nar .char dg534), (nar .char dg584), (nar .char dg634), (nar .char dg684), (nar .char dg734), (nar .char dg784)] : List Int32).getD (11 - nN.toInt.toNat) 0))]) rfl ?_
       refine XS.iload X863.here hx rfl (hb hby at_508) rfl ?_
       refine XS.iload X863.here hx rfl (hb hby at_510) rfl ?_
       refine XS.icmpNo X863.here hx rfl (hb hby at_512) rfl (own_icF_ne ((own_fin (own_npos hl hn c348) (own_nle hl hn c355) (fun z => c475 (by rw [← own_head_eq (bs := [(nar .char dg283), (nar .char dg334), (nar .char dg384), (nar .char dg434), (nar .char dg484), (nar .char dg534), (nar .char dg584), (nar .char dg634), (nar .char dg684), (nar .char dg734), (nar .char dg784)]) hn c348]; rw [ecs] at z; exact z.1)) (own_digs (t := tv) ht ecs hbs822 hl hn trivial) (own_vnone ht hbs822 hn c355 ecs hl)).trans (if_neg c496))) ?_
       refine XS.iconst X863.here hx rfl (hb hby at_515) ?_
       refine XS.goto X863.here hx rfl (pc0 := 516) (pc' := 520) rfl (hb hby at_516) (by decide) (by decide) ?_
       exact hh)
      clear k102
      obtain ⟨fs, hr, hrun, hended, hEnd⟩ := X863.leaveW hS840 (by rw [e871]; exact (Nat.le_refl T825.heap.size)) (v := some (.int (1 : Int32))) (fun h => by rw [Bd.returns] at h; cases h)
      refine ⟨_, _, (own_from hB_ (k104 _ (retN X863 hx (t := .boolean) Bd.returns (by simp) (hb hby at_520) hr))), hrun, hended, _, _, rfl, ?_, hEnd.1, hEnd.2.1, hEnd.2.2.1, hEnd.2.2.2.mono (own_l rfl) (own_l rfl)⟩
      show QL h0 n0 _ T859.heap _
      rw [e871]
      exact ⟨rfl, N872⟩
 ·
  have k105 : own_J p e below T805 m 329 #[.val (.long xv), .second, .val (.int lv), .val (.int pv), .val (.int hv), .val (.int fv), .val (.ref a30), .val (.long tv), .second, .val (.int nN), .val (.int pP), .val (.int cc), .val (.int rp), .val (.ref a260), .unset, .unset, .unset, .unset, .unset, .unset, .unset] [(.int cc), (.int (((11 : Int32) - nN) + pP)), (.ref a260)] B_ := fun t_ hh => k79 t_ (by
   refine XS.ifNo X807.here hx rfl (hb hby at_314) rfl (own_ifF_eq c314) ?_
   refine XS.aload X807.here hx rfl (hb hby at_317) rfl rfl ?_
   refine XS.bipush X807.here hx rfl (hb hby at_319) ?_
   refine XS.iload X807.here hx rfl (hb hby at_321) rfl ?_
   refine XS.isub X807.here hx rfl (hb hby at_323) rfl ?_
   refine XS.iload X807.here hx rfl (hb hby at_324) rfl ?_
   refine XS.iadd X807.here hx rfl (hb hby at_326) rfl ?_
   refine XS.iload X807.here hx rfl (hb hby at_327) rfl ?_
   exact hh)
  clear k79
  obtain ⟨cl874, Ar875, q876, S877, Ng878, H879, Gf880⟩ := id V814
  have hin881 := inb_of (j := (((11 : Int32) - nN) + pP)) S877 (own_inb hn hp (own_pn hrp c314))
  obtain ⟨T882, h883, X884, e885, W886, st887⟩ := stC X807 hx hZ e808 Ar875 (j := (((11 : Int32) - nN) + pP)) hin881 (g := (mkF m 329 #[.val (.long xv), .second, .val (.int lv), .val (.int pv), .val (.int hv), .val (.int fv), .val (.ref a30), .val (.long tv), .second, .val (.int nN), .val (.int pP), .val (.int cc), .val (.int rp), .val (.ref a260), .unset, .unset, .unset, .unset, .unset, .unset, .unset] [(.int cc), (.int (((11 : Int32) - nN) + pP)), (.ref a260)])) rfl rfl (hb hby at_329)
  have N888 := Fr.snoc X884 N811 G262
  have K889 : Keep h806 h883 [a260] := Keep.of_wr W886
  have V890 : Arv Z h883 a260 kA253 .char (11 : Int32) (List.set [(.int (nar .char dg283)), (.int (nar .char dg334)), (.int (nar .char dg384)), (.int (nar .char dg434)), (.int (nar .char dg484)), (.int (nar .char dg534)), (.int (nar .char dg584)), (.int (nar .char dg634)), (.int (nar .char dg684)), (.int (nar .char dg734)), (.int (nar .char dg784))] (11 - nN.toInt.toNat + pP.toInt.toNat) (.int (nar .char cc))) (.int (0 : Int32)) := Arv.set Ar875 q876 S877 Ng878 H879 Gf880 (fits_nar_char _) W886 (11 - nN.toInt.toNat + pP.toInt.toNat) (own_idx hn hp (own_pn hrp c314)) (own_idxlt hn hp (own_pn hrp c314))
  have k106 : own_J p e below T882 m 330 #[.val (.long xv), .second, .val (.int lv), .val (.int pv), .val (.int hv), .val (.int fv), .val (.ref a30), .val (.long tv), .second, .val (.int nN), .val (.int pP), .val (.int cc), .val (.int rp), .val (.ref a260), .unset, .unset, .unset, .unset, .unset, .unset, .unset] [] B_ := fun t_ hh => k105 t_ (st887 t_ hh)
  clear k105 st887 X807 e808 cl874 Ar875 q876 S877 Ng878 H879 Gf880 hin881 W886 V814 N811
  have F891 := F815.keep K889 (ninS ne313 nin0)
  have Z892 : n0 ≤ h883.size := Nat.le_trans Z816 K889.1
  have hk893 := Nat.le_trans hk817 K889.1
  have Sf894 := Safe.keep K889 (allS Sf819 all0) Cr820.1 Sf818
  have Sf895 := Safe.keep K889 (allS Sf819 all0) Cr820.1 Sf819
  have Cr896 := Cr820.trans (CHr.keep K889 (allS Sf819 all0) Cr820.1)
  have O897 := O821.keep K889 (allS G262 all0)
  have hbs8980 : own_bs tv [(nar .char dg283), (nar .char dg334), (nar .char dg384), (nar .char dg434), (nar .char dg484), (nar .char dg534), (nar .char dg584), (nar .char dg634), (nar .char dg684), (nar .char dg734), (nar .char dg784)] none := own_bs0 ht F284 F335 F385 F435 F485 F535 F585 F635 F685 F735 F785
  obtain ⟨b901, b902, b903, b904, b905, b906, b907, b908, b909, b910, b911, hl912⟩ := own_eleven (List.set [(nar .char dg283), (nar .char dg334), (nar .char dg384), (nar .char dg434), (nar .char dg484), (nar .char dg534), (nar .char dg584), (nar .char dg634), (nar .char dg684), (nar .char dg734), (nar .char dg784)] (11 - nN.toInt.toNat + pP.toInt.toNat) (nar .char cc)) (by rw [List.length_set]; rfl)
  have hbs898 : own_bs tv [b901, b902, b903, b904, b905, b906, b907, b908, b909, b910, b911] (some (11 - nN.toInt.toNat + pP.toInt.toNat, cc)) := by rw [← hl912]; exact own_bs_set hbs8980 hcc (own_idxlt hn hp (own_pn hrp c314))
  have F899 : Arv Z h883 a260 kA253 .char (11 : Int32) [.int b901, .int b902, .int b903, .int b904, .int b905, .int b906, .int b907, .int b908, .int b909, .int b910, .int b911] (.int 0) := (own_setA (ds := [(nar .char dg283), (nar .char dg334), (nar .char dg384), (nar .char dg434), (nar .char dg484), (nar .char dg534), (nar .char dg584), (nar .char dg634), (nar .char dg684), (nar .char dg734), (nar .char dg784)]) V890 hl912 :)
  have hb900 : own_chs [b901, b902, b903, b904, b905, b906, b907, b908, b909, b910, b911] := own_bs_chs ht hbs898 (fun j c q => by cases q; exact hcc)
  have k107 : own_J p e below T882 m 334 #[.val (.long xv), .second, .val (.int lv), .val (.int pv), .val (.int hv), .val (.int fv), .val (.ref a30), .val (.long tv), .second, .val (.int nN), .val (.int pP), .val (.int cc), .val (.int rp), .val (.ref a260), .unset, .unset, .unset, .unset, .unset, .unset, .unset] [(.int nN), (.ref a260)] B_ := fun t_ hh => k106 t_ (by
   refine XS.aload X884.here hx rfl (hb hby at_330) rfl rfl ?_
   refine XS.iload X884.here hx rfl (hb hby at_332) rfl ?_
   exact hh)
  clear k106
  obtain ⟨_, _, ⟨T913, L914, k_915, n_916⟩, -, X917, hSc924, hgr925, ⟨Lc918, hQ919, l_920, y_921, z_922, C926⟩, st923⟩ := callSS X884 hx (y := (⟨"com/example/commitlog/commitlog/ConsumeQueuesQueueIdOfPinLaw", "make", "([CI)Ljava/lang/String;"⟩ : MethodName)) hown (mvT hZ (wT hw 20 rfl)) (mvT hZ (wT hw 21 rfl)) (mvT hZ (wT hw 18 rfl)) (mvT hZ (wT hw 22 rfl)) (by decide) (backOfSH (W := 0) (rmMk l Z a0 hw [] a260 kA253 nN b901 b902 b903 b904 b905 b906 b907 b908 b909 b910 b911 h883 n0 Z892 F899 hb900 hn O897 sA sH sL ci sC hc) hZ (wT hw 22 rfl) (wT hw 18 rfl) (by decide) (by decide) (own_EW hw) Cr896.1) (g := (mkF m 334 #[.val (.long xv), .second, .val (.int lv), .val (.int pv), .val (.int hv), .val (.int fv), .val (.ref a30), .val (.long tv), .second, .val (.int nN), .val (.int pP), .val (.int cc), .val (.int rp), .val (.ref a260), .unset, .unset, .unset, .unset, .unset, .unset, .unset] [(.int nN), (.ref a260)])) rfl (by rw [hml]; rfl) (argsL := [(.ref a260), (.int nN)]) (rest := []) (lenOf own_h822 rfl) rfl (by show 2 * 0 + _ ≤ _; exact Nat.le_of_eq rfl) (hb hby at_334) (fun _ _ => ⟨rfl, e885, own_l rfl, own_l rfl⟩)
  dsimp only [Pt.U, Pt.locs, Pt.cells, Pt.slots] at X917 hSc924 hgr925 l_920 y_921 z_922 st923 hQ919 C926
  replace l_920 := l_920.symm
  subst l_920 y_921 z_922
  obtain ⟨X927, hS928, hZ929, hown930⟩ := rebS hS0 (by rw [e885]; exact hk893) X917 hSc924 hgr925 hZ hown
  have Sf931 := C926.safe F891.lt Sf894
  have Sf932 := C926.safe F899.lt Sf895
  have Cr933 := Cr896.trans C926
  obtain ⟨r934, rfl, N935, K936, G937, E938, S939⟩ := hQ919
  have N940 := Fr.app N888 N935
  have F941 := F891.keep K936 nin0
  have F942 := F899.keep K936 nin0
  have Z943 : n0 ≤ T913.heap.size := Nat.le_trans Z892 K936.1
  have hk944 := Nat.le_trans hk893 K936.1
  have O945 := O897.keep K936 all0
  have e946 : T913.heap = T913.heap := rfl
  have k108 : own_J p e below T913 m 337 #[.val (.long xv), .second, .val (.int lv), .val (.int pv), .val (.int hv), .val (.int fv), .val (.ref a30), .val (.long tv), .second, .val (.int nN), .val (.int pP), .val (.int cc), .val (.int rp), .val (.ref a260), .unset, .unset, .unset, .unset, .unset, .unset, .unset] [(.ref r934)] B_ := fun t_ hh => k107 t_ (st923.trans hh)
  clear k107 st923 X884 e885
  obtain ⟨cs, ecs⟩ : ∃ z, z = (([b901, b902, b903, b904, b905, b906, b907, b908, b909, b910, b911] : List Int32).drop (11 - nN.toInt.toNat)) := ⟨_, rfl⟩
  have hl : cs.length = nN.toInt.toNat := by rw [ecs, List.length_drop]; exact own_hl hn
  have hcs : own_chs cs := by rw [ecs]; exact own_chs_drop _ hb900
  have hS : own_S Z T913.heap r934 cs := by rw [ecs]; exact S939
  have k109 : own_J p e below T913 m 341 #[.val (.long xv), .second, .val (.int lv), .val (.int pv), .val (.int hv), .val (.int fv), .val (.ref a30), .val (.long tv), .second, .val (.int nN), .val (.int pP), .val (.int cc), .val (.int rp), .val (.ref a260), .val (.ref r934), .unset, .unset, .unset, .unset, .unset, .unset] [(.ref r934)] B_ := fun t_ hh => k108 t_ (by
   refine XS.astore X927.here hx rfl (hb hby at_337) rfl rfl (l' := #[.val (.long xv), .second, .val (.int lv), .val (.int pv), .val (.int hv), .val (.int fv), .val (.ref a30), .val (.long tv), .second, .val (.int nN), .val (.int pP), .val (.int cc), .val (.int rp), .val (.ref a260), .val (.ref r934), .unset, .unset, .unset, .unset, .unset, .unset]) rfl ?_
   refine XS.aload X927.here hx rfl (hb hby at_339) rfl rfl ?_
   exact hh)
  clear k108
  obtain ⟨_, _, ⟨T947, L948, k_949, n_950⟩, -, X951, ⟨Lc952, hQ953, l_954, y_955, z_956⟩, st957⟩ := Jvm.LawKit.callS X927 hx (y := (⟨"com/example/commitlog/commitlog/ConsumeQueues", "queueIdOf", "(Ljava/lang/String;)I"⟩ : MethodName)) hown930 (mvT hZ929 (wT hw 52 rfl)) (mvT hZ929 (wT hw 53 rfl)) (mvT hZ929 (wT hw 54 rfl)) (mvT hZ929 (wT hw 55 rfl)) (by decide) (backOf (W := 0) (rmQ l Z a0 hw [] r934 cs T913.heap n0 Z943 O945 (own_c11 hl hn) hcs hS ci sC hc gv sG hg sA sH sL) hZ929 (wT hw 55 rfl) (wT hw 54 rfl) (by decide) (by decide)) (g := (mkF m 341 #[.val (.long xv), .second, .val (.int lv), .val (.int pv), .val (.int hv), .val (.int fv), .val (.ref a30), .val (.long tv), .second, .val (.int nN), .val (.int pP), .val (.int cc), .val (.int rp), .val (.ref a260), .val (.ref r934), .unset, .unset, .unset, .unset, .unset, .unset] [(.ref r934)])) rfl (by rw [hml]; rfl) (argsL := [(.ref r934)]) (rest := []) (lenOf own_h823 rfl) rfl (by show 2 * 0 + _ ≤ _; exact Nat.le_of_eq rfl) (hb hby at_341) (fun _ _ => ⟨rfl, e946, own_l rfl, own_l rfl⟩)
  dsimp only [Pt.U, Pt.locs, Pt.cells, Pt.slots] at X951 l_954 y_955 z_956 st957 hQ953
  replace l_954 := l_954.symm
  subst l_954 y_955 z_956
  obtain ⟨rfl, N958, e959⟩ := hQ953
  have N960 := Fr.app N940 N958
  have k110 : own_J p e below T947 m 344 #[.val (.long xv), .second, .val (.int lv), .val (.int pv), .val (.int hv), .val (.int fv), .val (.ref a30), .val (.long tv), .second, .val (.int nN), .val (.int pP), .val (.int cc), .val (.int rp), .val (.ref a260), .val (.ref r934), .unset, .unset, .unset, .unset, .unset, .unset] [(.int (own_qid cs))] B_ := fun t_ hh => k109 t_ (st957 t_ hh)
  clear k109 st957 X927 e946
  have k111 : own_J p e below T947 m 348 #[.val (.long xv), .second, .val (.int lv), .val (.int pv), .val (.int hv), .val (.int fv), .val (.ref a30), .val (.long tv), .second, .val (.int nN), .val (.int pP), .val (.int cc), .val (.int rp), .val (.ref a260), .val (.ref r934), .val (.int (own_qid cs)), .unset, .unset, .unset, .unset, .unset] [(.int nN)] B_ := fun t_ hh => k110 t_ (by
   refine XS.istore X951.here hx rfl (hb hby at_344) rfl (l' := #[.val (.long xv), .second, .val (.int lv), .val (.int pv), .val (.int hv), .val (.int fv), .val (.ref a30), .val (.long tv), .second, .val (.int nN), .val (.int pP), .val (.int cc), .val (.int rp), .val (.ref a260), .val (.ref r934), .val (.int (own_qid cs)), .unset, .unset, .unset, .unset, .unset]) rfl ?_
   refine XS.iload X951.here hx rfl (hb hby at_346) rfl ?_
   exact hh)
  clear k110
  by_cases c348 : nN = 0
  ·
   have k112 : own_J p e below T947 m 520 #[.val (.long xv), .second, .val (.int lv), .val (.int pv), .val (.int hv), .val (.int fv), .val (.ref a30), .val (.long tv), .second, .val (.int nN), .val (.int pP), .val (.int cc), .val (.int rp), .val (.ref a260), .val (.ref r934), .val (.int (own_qid cs)), .val (.int (-1 : Int32)), .unset, .unset, .unset, .unset] [(.int (1 : Int32))] B_ := fun t_ hh => k111 t_ (by
    refine XS.ifYes X951.here hx rfl (pc0 := 348) (pc' := 358) rfl (hb hby at_348) rfl (own_ifT_eq c348) (by decide) (by decide) ?_
    refine XS.iconst X951.here hx rfl (hb hby at_358) ?_
    refine XS.istore X951.here hx rfl (hb hby at_359) rfl (l' := #[.val (.long xv), .second, .val (.int lv), .val (.int pv), .val (.int hv), .val (.int fv), .val (.ref a30), .val (.long tv), .second, .val (.int nN), .val (.int pP), .val (.int cc), .val (.int rp), .val (.ref a260), .val (.ref r934), .val (.int (own_qid cs)), .val (.int (-1 : Int32)), .unset, .unset, .unset, .unset]) rfl ?_
    refine XS.goto X951.here hx rfl (pc0 := 361) (pc' := 508) rfl (hb hby at_361) (by decide) (by decide) ?_
    refine XS.iload X951.here hx rfl (hb hby at_508) rfl ?_
    refine XS.iload X951.here hx rfl (hb hby at_510) rfl ?_
    refine XS.icmpNo X951.here hx rfl (hb hby at_512) rfl (own_icF_ne (own_qid_len (Or.inl (by rw [hl, c348]; rfl)))) ?_
    refine XS.iconst X951.here hx rfl (hb hby at_515) ?_
    refine XS.goto X951.here hx rfl (pc0 := 516) (pc' := 520) rfl (hb hby at_516) (by decide) (by decide) ?_
    exact hh)
   clear k111
   obtain ⟨fs, hr, hrun, hended, hEnd⟩ := X951.leaveW hS928 (by rw [e959]; exact (Nat.le_refl T913.heap.size)) (v := some (.int (1 : Int32))) (fun h => by rw [Bd.returns] at h; cases h)
   refine ⟨_, _, (own_from hB_ (k112 _ (retN X951 hx (t := .boolean) Bd.returns (by simp) (hb hby at_520) hr))), hrun, hended, _, _, rfl, ?_, hEnd.1, hEnd.2.1, hEnd.2.2.1, hEnd.2.2.2.mono (own_l rfl) (own_l rfl)⟩
   show QL h0 n0 _ T947.heap _
   rw [e959]
   exact ⟨rfl, N960⟩
  ·
   have k113 : own_J p e below T947 m 355 #[.val (.long xv), .second, .val (.int lv), .val (.int pv), .val (.int hv), .val (.int fv), .val (.ref a30), .val (.long tv), .second, .val (.int nN), .val (.int pP), .val (.int cc), .val (.int rp), .val (.ref a260), .val (.ref r934), .val (.int (own_qid cs)), .unset, .unset, .unset, .unset, .unset] [(.int (10 : Int32)), (.int nN)] B_ := fun t_ hh => k111 t_ (by
    refine XS.ifNo X951.here hx rfl (hb hby at_348) rfl (own_ifF_eq c348) ?_
    refine XS.iload X951.here hx rfl (hb hby at_351) rfl ?_
    refine XS.bipush X951.here hx rfl (hb hby at_353) ?_
    exact hh)
   clear k111
   by_cases c355 : (10 : Int32) < nN
   ·
    have k114 : own_J p e below T947 m 520 #[.val (.long xv), .second, .val (.int lv), .val (.int pv), .val (.int hv), .val (.int fv), .val (.ref a30), .val (.long tv), .second, .val (.int nN), .val (.int pP), .val (.int cc), .val (.int rp), .val (.ref a260), .val (.ref r934), .val (.int (own_qid cs)), .val (.int (-1 : Int32)), .unset, .unset, .unset, .unset] [(.int (1 : Int32))] B_ := fun t_ hh => k113 t_ (by
     refine XS.icmpNo X951.here hx rfl (hb hby at_355) rfl (own_icF_le c355) ?_
     refine XS.iconst X951.here hx rfl (hb hby at_358) ?_
     refine XS.istore X951.here hx rfl (hb hby at_359) rfl (l' := #[.val (.long xv), .second, .val (.int lv), .val (.int pv), .val (.int hv), .val (.int fv), .val (.ref a30), .val (.long tv), .second, .val (.int nN), .val (.int pP), .val (.int cc), .val (.int rp), .val (.ref a260), .val (.ref r934), .val (.int (own_qid cs)), .val (.int (-1 : Int32)), .unset, .unset, .unset, .unset]) rfl ?_
     refine XS.goto X951.here hx rfl (pc0 := 361) (pc' := 508) rfl (hb hby at_361) (by decide) (by decide) ?_
     refine XS.iload X951.here hx rfl (hb hby at_508) rfl ?_
     refine XS.iload X951.here hx rfl (hb hby at_510) rfl ?_
     refine XS.icmpNo X951.here hx rfl (hb hby at_512) rfl (own_icF_ne (own_qid_len (Or.inr (by rw [hl]; exact own_n10 hn c355)))) ?_
     refine XS.iconst X951.here hx rfl (hb hby at_515) ?_
     refine XS.goto X951.here hx rfl (pc0 := 516) (pc' := 520) rfl (hb hby at_516) (by decide) (by decide) ?_
     exact hh)
    clear k113
    obtain ⟨fs, hr, hrun, hended, hEnd⟩ := X951.leaveW hS928 (by rw [e959]; exact (Nat.le_refl T913.heap.size)) (v := some (.int (1 : Int32))) (fun h => by rw [Bd.returns] at h; cases h)
    refine ⟨_, _, (own_from hB_ (k114 _ (retN X951 hx (t := .boolean) Bd.returns (by simp) (hb hby at_520) hr))), hrun, hended, _, _, rfl, ?_, hEnd.1, hEnd.2.1, hEnd.2.2.1, hEnd.2.2.2.mono (own_l rfl) (own_l rfl)⟩
    show QL h0 n0 _ T947.heap _
    rw [e959]
    exact ⟨rfl, N960⟩
   ·
    have k115 : own_J p e below T947 m 364 #[.val (.long xv), .second, .val (.int lv), .val (.int pv), .val (.int hv), .val (.int fv), .val (.ref a30), .val (.long tv), .second, .val (.int nN), .val (.int pP), .val (.int cc), .val (.int rp), .val (.ref a260), .val (.ref r934), .val (.int (own_qid cs)), .unset, .unset, .unset, .unset, .unset] [] B_ := fun t_ hh => k113 t_ (by
     refine XS.icmpYes X951.here hx rfl (pc0 := 355) (pc' := 364) rfl (hb hby at_355) rfl (own_icT_le c355) (by decide) (by decide) ?_
     exact hh)
    clear k113
    obtain ⟨cd, hM961, k116⟩ : ∃ cd : Int32, ((cd = 0 ∧ ¬ own_dig cc) ∨ (cd = 1 ∧ own_dig cc)) ∧ own_J p e below T947 m 383 #[.val (.long xv), .second, .val (.int lv), .val (.int pv), .val (.int hv), .val (.int fv), .val (.ref a30), .val (.long tv), .second, .val (.int nN), .val (.int pP), .val (.int cc), .val (.int rp), .val (.ref a260), .val (.ref r934), .val (.int (own_qid cs)), .unset, .unset, .unset, .unset, .unset] [(.int cd)] B_ := by
     have k117 : own_J p e below T947 m 368 #[.val (.long xv), .second, .val (.int lv), .val (.int pv), .val (.int hv), .val (.int fv), .val (.ref a30), .val (.long tv), .second, .val (.int nN), .val (.int pP), .val (.int cc), .val (.int rp), .val (.ref a260), .val (.ref r934), .val (.int (own_qid cs)), .unset, .unset, .unset, .unset, .unset] [(.int (48 : Int32)), (.int cc)] B_ := fun t_ hh => k115 t_ (by
      refine XS.iload X951.here hx rfl (hb hby at_364) rfl ?_
      refine XS.bipush X951.here hx rfl (hb hby at_366) ?_
      exact hh)
     clear k115
     by_cases c368 : cc < (48 : Int32)
     ·
      have k118 : own_J p e below T947 m 383 #[.val (.long xv), .second, .val (.int lv), .val (.int pv), .val (.int hv), .val (.int fv), .val (.ref a30), .val (.long tv), .second, .val (.int nN), .val (.int pP), .val (.int cc), .val (.int rp), .val (.ref a260), .val (.ref r934), .val (.int (own_qid cs)), .unset, .unset, .unset, .unset, .unset] [(.int (0 : Int32))] B_ := fun t_ hh => k117 t_ (by
       refine XS.icmpYes X951.here hx rfl (pc0 := 368) (pc' := 382) rfl (hb hby at_368) rfl (own_icT_lt c368) (by decide) (by decide) ?_
       refine XS.iconst X951.here hx rfl (hb hby at_382) ?_
       exact hh)
      clear k117
      exact ⟨(0 : Int32), (Or.inl ⟨rfl, own_nd1 c368⟩), k118⟩
     ·
      have k119 : own_J p e below T947 m 375 #[.val (.long xv), .second, .val (.int lv), .val (.int pv), .val (.int hv), .val (.int fv), .val (.ref a30), .val (.long tv), .second, .val (.int nN), .val (.int pP), .val (.int cc), .val (.int rp), .val (.ref a260), .val (.ref r934), .val (.int (own_qid cs)), .unset, .unset, .unset, .unset, .unset] [(.int (57 : Int32)), (.int cc)] B_ := fun t_ hh => k117 t_ (by
       refine XS.icmpNo X951.here hx rfl (hb hby at_368) rfl (own_icF_lt c368) ?_
       refine XS.iload X951.here hx rfl (hb hby at_371) rfl ?_
       refine XS.bipush X951.here hx rfl (hb hby at_373) ?_
       exact hh)
      clear k117
      by_cases c375 : (57 : Int32) < cc
      ·
       have k120 : own_J p e below T947 m 383 #[.val (.long xv), .second, .val (.int lv), .val (.int pv), .val (.int hv), .val (.int fv), .val (.ref a30), .val (.long tv), .second, .val (.int nN), .val (.int pP), .val (.int cc), .val (.int rp), .val (.ref a260), .val (.ref r934), .val (.int (own_qid cs)), .unset, .unset, .unset, .unset, .unset] [(.int (0 : Int32))] B_ := fun t_ hh => k119 t_ (by
        refine XS.icmpYes X951.here hx rfl (pc0 := 375) (pc' := 382) rfl (hb hby at_375) rfl (own_icT_gt c375) (by decide) (by decide) ?_
        refine XS.iconst X951.here hx rfl (hb hby at_382) ?_
        exact hh)
       clear k119
       exact ⟨(0 : Int32), (Or.inl ⟨rfl, own_nd2 c375⟩), k120⟩
      ·
       have k121 : own_J p e below T947 m 383 #[.val (.long xv), .second, .val (.int lv), .val (.int pv), .val (.int hv), .val (.int fv), .val (.ref a30), .val (.long tv), .second, .val (.int nN), .val (.int pP), .val (.int cc), .val (.int rp), .val (.ref a260), .val (.ref r934), .val (.int (own_qid cs)), .unset, .unset, .unset, .unset, .unset] [(.int (1 : Int32))] B_ := fun t_ hh => k119 t_ (by
        refine XS.icmpNo X951.here hx rfl (hb hby at_375) rfl (own_icF_gt c375) ?_
        refine XS.iconst X951.here hx rfl (hb hby at_378) ?_
        refine XS.goto X951.here hx rfl (pc0 := 379) (pc' := 383) rfl (hb hby at_379) (by decide) (by decide) ?_
        exact hh)
       clear k119
       exact ⟨(1 : Int32), (Or.inr ⟨rfl, own_dig_of c368 c375⟩), k121⟩
    have hcd := hM961
    have k122 : own_J p e below T947 m 392 #[.val (.long xv), .second, .val (.int lv), .val (.int pv), .val (.int hv), .val (.int fv), .val (.ref a30), .val (.long tv), .second, .val (.int nN), .val (.int pP), .val (.int cc), .val (.int rp), .val (.ref a260), .val (.ref r934), .val (.int (own_qid cs)), .unset, .val (.int cd), .unset, .unset, .unset] [(.int cd)] B_ := fun t_ hh => k116 t_ (by
     refine XS.istore X951.here hx rfl (hb hby at_383) rfl (l' := #[.val (.long xv), .second, .val (.int lv), .val (.int pv), .val (.int hv), .val (.int fv), .val (.ref a30), .val (.long tv), .second, .val (.int nN), .val (.int pP), .val (.int cc), .val (.int rp), .val (.ref a260), .val (.ref r934), .val (.int (own_qid cs)), .unset, .val (.int cd), .unset, .unset, .unset]) rfl ?_
     refine XS.iload X951.here hx rfl (hb hby at_385) rfl ?_
     refine XS.ifNo X951.here hx rfl (hb hby at_387) rfl (own_ifF_eq c314) ?_
     refine XS.iload X951.here hx rfl (hb hby at_390) rfl ?_
     exact hh)
    clear k116
    by_cases c392 : cd = 0
    ·
     have k123 : own_J p e below T947 m 520 #[.val (.long xv), .second, .val (.int lv), .val (.int pv), .val (.int hv), .val (.int fv), .val (.ref a30), .val (.long tv), .second, .val (.int nN), .val (.int pP), .val (.int cc), .val (.int rp), .val (.ref a260), .val (.ref r934), .val (.int (own_qid cs)), .val (.int (-1 : Int32)), .val (.int cd), .unset, .unset, .unset] [(.int (1 : Int32))] B_ := fun t_ hh => k122 t_ (by
      refine XS.ifNo X951.here hx rfl (hb hby at_392) rfl (own_ifF_ne c392) ?_
      refine XS.iconst X951.here hx rfl (hb hby at_395) ?_
      refine XS.istore X951.here hx rfl (hb hby at_396) rfl (l' := #[.val (.long xv), .second, .val (.int lv), .val (.int pv), .val (.int hv), .val (.int fv), .val (.ref a30), .val (.long tv), .second, .val (.int nN), .val (.int pP), .val (.int cc), .val (.int rp), .val (.ref a260), .val (.ref r934), .val (.int (own_qid cs)), .val (.int (-1 : Int32)), .val (.int cd), .unset, .unset, .unset]) rfl ?_
      refine XS.goto X951.here hx rfl (pc0 := 398) (pc' := 508) rfl (hb hby at_398) (by decide) (by decide) ?_
      refine XS.iload X951.here hx rfl (hb hby at_508) rfl ?_
      refine XS.iload X951.here hx rfl (hb hby at_510) rfl ?_
      refine XS.icmpNo X951.here hx rfl (hb hby at_512) rfl (own_icF_ne (own_bad ecs hbs898 hn (own_pn hrp c314) hp hcd c392)) ?_
      refine XS.iconst X951.here hx rfl (hb hby at_515) ?_
      refine XS.goto X951.here hx rfl (pc0 := 516) (pc' := 520) rfl (hb hby at_516) (by decide) (by decide) ?_
      exact hh)
     clear k122
     obtain ⟨fs, hr, hrun, hended, hEnd⟩ := X951.leaveW hS928 (by rw [e959]; exact (Nat.le_refl T913.heap.size)) (v := some (.int (1 : Int32))) (fun h => by rw [Bd.returns] at h; cases h)
     refine ⟨_, _, (own_from hB_ (k123 _ (retN X951 hx (t := .boolean) Bd.returns (by simp) (hb hby at_520) hr))), hrun, hended, _, _, rfl, ?_, hEnd.1, hEnd.2.1, hEnd.2.2.1, hEnd.2.2.2.mono (own_l rfl) (own_l rfl)⟩
     show QL h0 n0 _ T947.heap _
     rw [e959]
     exact ⟨rfl, N960⟩
    ·
     have k124 : own_J p e below T947 m 475 #[.val (.long xv), .second, .val (.int lv), .val (.int pv), .val (.int hv), .val (.int fv), .val (.ref a30), .val (.long tv), .second, .val (.int nN), .val (.int pP), .val (.int cc), .val (.int rp), .val (.ref a260), .val (.ref r934), .val (.int (own_qid cs)), .unset, .val (.int cd), .val (.long (((tv - (tv / (own_pw nN)) * (own_pw nN)) - (((tv / (own_pw ((nN - (1 : Int32)) - pP))) - ((tv / (own_pw ((nN - (1 : Int32)) - pP))) / (10 : Int64)) * (10 : Int64)) * (own_pw ((nN - (1 : Int32)) - pP)))) + (((cc - (48 : Int32)).toInt64) * (own_pw ((nN - (1 : Int32)) - pP))))), .second, .val (.int (([b901, b902, b903, b904, b905, b906, b907, b908, b909, b910, b911] : List Int32).getD (11 - nN.toInt.toNat) 0))] [(.int (48 : Int32)), (.int (([b901, b902, b903, b904, b905, b906, b907, b908, b909, b910, b911] : List Int32).getD (11 - nN.toInt.toNat) 0))] B_ := fun t_ hh => k122 t_ (by
      refine XS.ifYes X951.here hx rfl (pc0 := 392) (pc' := 401) rfl (hb hby at_392) rfl (own_ifT_ne c392) (by decide) (by decide) ?_
      refine XS.lload X951.here hx rfl (hb hby at_401) rfl ?_
      refine XS.aload X951.here hx rfl (hb hby at_403) rfl rfl ?_
      refine XS.iload X951.here hx rfl (hb hby at_405) rfl ?_
      refine own_laload X951 hx hZ929 e959 F941 (j := nN) (v := (.long (own_pw nN))) ⟨(own_ge0 hn), (own_lt12 hn)⟩ (own_pw_at hn.1 hn.2) (g := (mkF m 407 #[.val (.long xv), .second, .val (.int lv), .val (.int pv), .val (.int hv), .val (.int fv), .val (.ref a30), .val (.long tv), .second, .val (.int nN), .val (.int pP), .val (.int cc), .val (.int rp), .val (.ref a260), .val (.ref r934), .val (.int (own_qid cs)), .unset, .val (.int cd), .unset, .unset, .unset] [(.int nN), (.ref a30), (.long tv)])) rfl rfl (hb hby at_407) _ ?_
      refine XS.lrem X951.here hx rfl (hb hby at_408) rfl (own_pw_ne hn.1 hn.2).1 ?_
      refine XS.lstore X951.here hx rfl (hb hby at_409) rfl (l' := #[.val (.long xv), .second, .val (.int lv), .val (.int pv), .val (.int hv), .val (.int fv), .val (.ref a30), .val (.long tv), .second, .val (.int nN), .val (.int pP), .val (.int cc), .val (.int rp), .val (.ref a260), .val (.ref r934), .val (.int (own_qid cs)), .unset, .val (.int cd), .val (.long (tv - (tv / (own_pw nN)) * (own_pw nN))), .second, .unset]) rfl ?_
      refine XS.iload X951.here hx rfl (hb hby at_411) rfl ?_
      refine XS.ifNo X951.here hx rfl (hb hby at_413) rfl (own_ifF_eq c314) ?_
      refine XS.iload X951.here hx rfl (hb hby at_416) rfl ?_
      refine XS.iconst X951.here hx rfl (hb hby at_418) ?_
      refine XS.isub X951.here hx rfl (hb hby at_419) rfl ?_
      show Steps p.tables e below (T947.setTop (mkF m 420 #[.val (.long xv), .second, .val (.int lv), .val (.int pv), .val (.int hv), .val (.int fv), .val (.ref a30), .val (.long tv), .second, .val (.int nN), .val (.int pP), .val (.int cc), .val (.int rp), .val (.ref a260), .val (.ref r934), .val (.int (own_qid cs)), .unset, .val (.int cd), .val (.long (tv - (tv / (own_pw nN)) * (own_pw nN))), .second, .unset] [(.int (nN - (1 : Int32)))])) _
      refine XS.iload X951.here hx rfl (hb hby at_420) rfl ?_
      refine XS.isub X951.here hx rfl (hb hby at_422) rfl ?_
      refine XS.istore X951.here hx rfl (hb hby at_423) rfl (l' := #[.val (.long xv), .second, .val (.int lv), .val (.int pv), .val (.int hv), .val (.int fv), .val (.ref a30), .val (.long tv), .second, .val (.int nN), .val (.int pP), .val (.int cc), .val (.int rp), .val (.ref a260), .val (.ref r934), .val (.int (own_qid cs)), .unset, .val (.int cd), .val (.long (tv - (tv / (own_pw nN)) * (own_pw nN))), .second, .val (.int ((nN - (1 : Int32)) - pP))]) rfl ?_
      refine XS.lload X951.here hx rfl (hb hby at_425) rfl ?_
      refine XS.lload X951.here hx rfl (hb hby at_427) rfl ?_
      refine XS.aload X951.here hx rfl (hb hby at_429) rfl rfl ?_
      refine XS.iload X951.here hx rfl (hb hby at_431) rfl ?_
      refine own_laload X951 hx hZ929 e959 F941 (j := ((nN - (1 : Int32)) - pP)) (v := (.long (own_pw ((nN - (1 : Int32)) - pP)))) ⟨(own_ge0 (own_kr hn hp (own_pn hrp c314))), (own_lt12 (own_kr hn hp (own_pn hrp c314)))⟩ (own_pw_at (own_kr hn hp (own_pn hrp c314)).1 (own_kr hn hp (own_pn hrp c314)).2) (g := (mkF m 433 #[.val (.long xv), .second, .val (.int lv), .val (.int pv), .val (.int hv), .val (.int fv), .val (.ref a30), .val (.long tv), .second, .val (.int nN), .val (.int pP), .val (.int cc), .val (.int rp), .val (.ref a260), .val (.ref r934), .val (.int (own_qid cs)), .unset, .val (.int cd), .val (.long (tv - (tv / (own_pw nN)) * (own_pw nN))), .second, .val (.int ((nN - (1 : Int32)) - pP))] [(.int ((nN - (1 : Int32)) - pP)), (.ref a30), (.long tv), (.long (tv - (tv / (own_pw nN)) * (own_pw nN)))])) rfl rfl (hb hby at_433) _ ?_
      refine XS.ldiv X951.here hx rfl (hb hby at_434) rfl (own_pw_ne (own_kr hn hp (own_pn hrp c314)).1 (own_kr hn hp (own_pn hrp c314)).2).1 ?_
      refine X951.ldc2Long hx hown930 (mvT hZ929 (wT hw 1 rfl)) (g := (mkF m 435 #[.val (.long xv), .second, .val (.int lv), .val (.int pv), .val (.int hv), .val (.int fv), .val (.ref a30), .val (.long tv), .second, .val (.int nN), .val (.int pP), .val (.int cc), .val (.int rp), .val (.ref a260), .val (.ref r934), .val (.int (own_qid cs)), .unset, .val (.int cd), .val (.long (tv - (tv / (own_pw nN)) * (own_pw nN))), .second, .val (.int ((nN - (1 : Int32)) - pP))] [(.long (tv / (own_pw ((nN - (1 : Int32)) - pP)))), (.long (tv - (tv / (own_pw nN)) * (own_pw nN)))])) rfl (hb hby at_435) _ ?_
      refine XS.lrem X951.here hx rfl (hb hby at_438) rfl (by decide) ?_
      refine XS.aload X951.here hx rfl (hb hby at_439) rfl rfl ?_
      show Steps p.tables e below (T947.setTop (mkF m 441 #[.val (.long xv), .second, .val (.int lv), .val (.int pv), .val (.int hv), .val (.int fv), .val (.ref a30), .val (.long tv), .second, .val (.int nN), .val (.int pP), .val (.int cc), .val (.int rp), .val (.ref a260), .val (.ref r934), .val (.int (own_qid cs)), .unset, .val (.int cd), .val (.long (tv - (tv / (own_pw nN)) * (own_pw nN))), .second, .val (.int ((nN - (1 : Int32)) - pP))] [(.ref a30), (.long ((tv / (own_pw ((nN - (1 : Int32)) - pP))) - ((tv / (own_pw ((nN - (1 : Int32)) - pP))) / (10 : Int64)) * (10 : Int64))), (.long (tv - (tv / (own_pw nN)) * (own_pw nN)))])) _
      refine XS.iload X951.here hx rfl (hb hby at_441) rfl ?_
      refine own_laload X951 hx hZ929 e959 F941 (j := ((nN - (1 : Int32)) - pP)) (v := (.long (own_pw ((nN - (1 : Int32)) - pP)))) ⟨(own_ge0 (own_kr hn hp (own_pn hrp c314))), (own_lt12 (own_kr hn hp (own_pn hrp c314)))⟩ (own_pw_at (own_kr hn hp (own_pn hrp c314)).1 (own_kr hn hp (own_pn hrp c314)).2) (g := (mkF m 443 #[.val (.long xv), .second, .val (.int lv), .val (.int pv), .val (.int hv), .val (.int fv), .val (.ref a30), .val (.long tv), .second, .val (.int nN), .val (.int pP), .val (.int cc), .val (.int rp), .val (.ref a260), .val (.ref r934), .val (.int (own_qid cs)), .unset, .val (.int cd), .val (.long (tv - (tv / (own_pw nN)) * (own_pw nN))), .second, .val (.int ((nN - (1 : Int32)) - pP))] [(.int ((nN - (1 : Int32)) - pP)), (.ref a30), (.long ((tv / (own_pw ((nN - (1 : Int32)) - pP))) - ((tv / (own_pw ((nN - (1 : Int32)) - pP))) / (10 : Int64)) * (10 : Int64))), (.long (tv - (tv / (own_pw nN)) * (own_pw nN)))])) rfl rfl (hb hby at_443) _ ?_
      refine XS.lmul X951.here hx rfl (hb hby at_444) rfl ?_
      refine XS.lsub X951.here hx rfl (hb hby at_445) rfl ?_
      refine XS.iload X951.here hx rfl (hb hby at_446) rfl ?_
      refine XS.bipush X951.here hx rfl (hb hby at_448) ?_
      refine XS.isub X951.here hx rfl (hb hby at_450) rfl ?_
      refine XS.i2l X951.here hx rfl (hb hby at_451) rfl ?_
      refine XS.aload X951.here hx rfl (hb hby at_452) rfl rfl ?_
      refine XS.iload X951.here hx rfl (hb hby at_454) rfl ?_
      refine own_laload X951 hx hZ929 e959 F941 (j := ((nN - (1 : Int32)) - pP)) (v := (.long (own_pw ((nN - (1 : Int32)) - pP)))) ⟨(own_ge0 (own_kr hn hp (own_pn hrp c314))), (own_lt12 (own_kr hn hp (own_pn hrp c314)))⟩ (own_pw_at (own_kr hn hp (own_pn hrp c314)).1 (own_kr hn hp (own_pn hrp c314)).2) (g := (mkF m 456 #[.val (.long xv), .second, .val (.int lv), .val (.int pv), .val (.int hv), .val (.int fv), .val (.ref a30), .val (.long tv), .second, .val (.int nN), .val (.int pP), .val (.int cc), .val (.int rp), .val (.ref a260), .val (.ref r934), .val (.int (own_qid cs)), .unset, .val (.int cd), .val (.long (tv - (tv / (own_pw nN)) * (own_pw nN))), .second, .val (.int ((nN - (1 : Int32)) - pP))] [(.int ((nN - (1 : Int32)) - pP)), (.ref a30), (.long ((cc - (48 : Int32)).toInt64)), (.long ((tv - (tv / (own_pw nN)) * (own_pw nN)) - (((tv / (own_pw ((nN - (1 : Int32)) - pP))) - ((tv / (own_pw ((nN - (1 : Int32)) - pP))) / (10 : Int64)) * (10 : Int64)) * (own_pw ((nN - (1 : Int32)) - pP)))))])) rfl rfl (hb hby at_456) _ ?_
      refine XS.lmul X951.here hx rfl (hb hby at_457) rfl ?_
      show Steps p.tables e below (T947.setTop (mkF m 458 #[.val (.long xv), .second, .val (.int lv), .val (.int pv), .val (.int hv), .val (.int fv), .val (.ref a30), .val (.long tv), .second, .val (.int nN), .val (.int pP), .val (.int cc), .val (.int rp), .val (.ref a260), .val (.ref r934), .val (.int (own_qid cs)), .unset, .val (.int cd), .val (.long (tv - (tv / (own_pw nN)) * (own_pw nN))), .second, .val (.int ((nN - (1 : Int32)) - pP))] [(.long (((cc - (48 : Int32)).toInt64) * (own_pw ((nN - (1 : Int32)) - pP)))), (.long ((tv - (tv / (own_pw nN)) * (own_pw nN)) - (((tv / (own_pw ((nN - (1 : Int32)) - pP))) - ((tv / (own_pw ((nN - (1 : Int32)) - pP))) / (10 : Int64)) * (10 : Int64)) * (own_pw ((nN - (1 : Int32)) - pP)))))])) _
      refine XS.ladd X951.here hx rfl (hb hby at_458) rfl ?_
      refine XS.lstore X951.here hx rfl (hb hby at_459) rfl (l' := #[.val (.long xv), .second, .val (.int lv), .val (.int pv), .val (.int hv), .val (.int fv), .val (.ref a30), .val (.long tv), .second, .val (.int nN), .val (.int pP), .val (.int cc), .val (.int rp), .val (.ref a260), .val (.ref r934), .val (.int (own_qid cs)), .unset, .val (.int cd), .val (.long (((tv - (tv / (own_pw nN)) * (own_pw nN)) - (((tv / (own_pw ((nN - (1 : Int32)) - pP))) - ((tv / (own_pw ((nN - (1 : Int32)) - pP))) / (10 : Int64)) * (10 : Int64)) * (own_pw ((nN - (1 : Int32)) - pP)))) + (((cc - (48 : Int32)).toInt64) * (own_pw ((nN - (1 : Int32)) - pP))))), .second, .val (.int ((nN - (1 : Int32)) - pP))]) rfl ?_
      refine XS.aload X951.here hx rfl (hb hby at_461) rfl rfl ?_
      refine XS.bipush X951.here hx rfl (hb hby at_463) ?_
      refine XS.iload X951.here hx rfl (hb hby at_465) rfl ?_
      refine XS.isub X951.here hx rfl (hb hby at_467) rfl ?_
      refine own_caload X951 hx hZ929 e959 F942 (j := ((11 : Int32) - nN)) (v := (.int (([b901, b902, b903, b904, b905, b906, b907, b908, b909, b910, b911] : List Int32).getD (11 - nN.toInt.toNat) 0))) (own_inb0 hn c348) (own_at0 [b901, b902, b903, b904, b905, b906, b907, b908, b909, b910, b911] hn) (g := (mkF m 468 #[.val (.long xv), .second, .val (.int lv), .val (.int pv), .val (.int hv), .val (.int fv), .val (.ref a30), .val (.long tv), .second, .val (.int nN), .val (.int pP), .val (.int cc), .val (.int rp), .val (.ref a260), .val (.ref r934), .val (.int (own_qid cs)), .unset, .val (.int cd), .val (.long (((tv - (tv / (own_pw nN)) * (own_pw nN)) - (((tv / (own_pw ((nN - (1 : Int32)) - pP))) - ((tv / (own_pw ((nN - (1 : Int32)) - pP))) / (10 : Int64)) * (10 : Int64)) * (own_pw ((nN - (1 : Int32)) - pP)))) + (((cc - (48 : Int32)).toInt64) * (own_pw ((nN - (1 : Int32)) - pP))))), .second, .val (.int ((nN - (1 : Int32)) - pP))] [(.int ((11 : Int32) - nN)), (.ref a260)])) rfl rfl (hb hby at_468) _ ?_
      refine XS.istore X951.here hx rfl (hb hby at_469) rfl (l' := #[.val (.long xv), .second, .val (.int lv), .val (.int pv), .val (.int hv), .val (.int fv), .val (.ref a30), .val (.long tv), .second, .val (.int nN), .val (.int pP), .val (.int cc), .val (.int rp), .val (.ref a260), .val (.ref r934), .val (.int (own_qid cs)), .unset, .val (.int cd), .val (.long (((tv - (tv / (own_pw nN)) * (own_pw nN)) - (((tv / (own_pw ((nN - (1 : Int32)) - pP))) - ((tv / (own_pw ((nN - (1 : Int32)) - pP))) / (10 : Int64)) * (10 : Int64)) * (own_pw ((nN - (1 : Int32)) - pP)))) + (((cc - (48 : Int32)).toInt64) * (own_pw ((nN - (1 : Int32)) - pP))))), .second, .val (.int (([b901, b902, b903, b904, b905, b906, b907, b908, b909, b910, b911] : List Int32).getD (11 - nN.toInt.toNat) 0))]) rfl ?_
      refine XS.iload X951.here hx rfl (hb hby at_471) rfl ?_
      refine XS.bipush X951.here hx rfl (hb hby at_473) ?_
      exact hh)
     clear k122
     by_cases c475 : (([b901, b902, b903, b904, b905, b906, b907, b908, b909, b910, b911] : List Int32).getD (11 - nN.toInt.toNat) 0) = (48 : Int32)
     ·
      have k125 : own_J p e below T947 m 481 #[.val (.long xv), .second, .val (.int lv), .val (.int pv), .val (.int hv), .val (.int fv), .val (.ref a30), .val (.long tv), .second, .val (.int nN), .val (.int pP), .val (.int cc), .val (.int rp), .val (.ref a260), .val (.ref r934), .val (.int (own_qid cs)), .unset, .val (.int cd), .val (.long (((tv - (tv / (own_pw nN)) * (own_pw nN)) - (((tv / (own_pw ((nN - (1 : Int32)) - pP))) - ((tv / (own_pw ((nN - (1 : Int32)) - pP))) / (10 : Int64)) * (10 : Int64)) * (own_pw ((nN - (1 : Int32)) - pP)))) + (((cc - (48 : Int32)).toInt64) * (own_pw ((nN - (1 : Int32)) - pP))))), .second, .val (.int (([b901, b902, b903, b904, b905, b906, b907, b908, b909, b910, b911] : List Int32).getD (11 - nN.toInt.toNat) 0))] [(.int (1 : Int32)), (.int nN)] B_ := fun t_ hh => k124 t_ (by
       refine XS.icmpNo X951.here hx rfl (hb hby at_475) rfl (own_icF_ne c475) ?_
       refine XS.iload X951.here hx rfl (hb hby at_478) rfl ?_
       refine XS.iconst X951.here hx rfl (hb hby at_480) ?_
       exact hh)
      clear k124
      by_cases c481 : (1 : Int32) < nN
      ·
       have k126 : own_J p e below T947 m 520 #[.val (.long xv), .second, .val (.int lv), .val (.int pv), .val (.int hv), .val (.int fv), .val (.ref a30), .val (.long tv), .second, .val (.int nN), .val (.int pP), .val (.int cc), .val (.int rp), .val (.ref a260), .val (.ref r934), .val (.int (own_qid cs)), .val (.int (-1 : Int32)), .val (.int cd), .val (.long (((tv - (tv / (own_pw nN)) * (own_pw nN)) - (((tv / (own_pw ((nN - (1 : Int32)) - pP))) - ((tv / (own_pw ((nN - (1 : Int32)) - pP))) / (10 : Int64)) * (10 : Int64)) * (own_pw ((nN - (1 : Int32)) - pP)))) + (((cc - (48 : Int32)).toInt64) * (own_pw ((nN - (1 : Int32)) - pP))))), .second, .val (.int (([b901, b902, b903, b904, b905, b906, b907, b908, b909, b910, b911] : List Int32).getD (11 - nN.toInt.toNat) 0))] [(.int (1 : Int32))] B_ := fun t_ hh => k125 t_ (by
        refine XS.icmpNo X951.here hx rfl (hb hby at_481) rfl (own_icF_le c481) ?_
        refine XS.iconst X951.here hx rfl (hb hby at_484) ?_
        refine XS.istore X951.here hx rfl (hb hby at_485) rfl (l' := #[.val (.long xv), .second, .val (.int lv), .val (.int pv), .val (.int hv), .val (.int fv), .val (.ref a30), .val (.long tv), .second, .val (.int nN), .val (.int pP), .val (.int cc), .val (.int rp), .val (.ref a260), .val (.ref r934), .val (.int (own_qid cs)), .val (.int (-1 : Int32)), .val (.int cd), .val (.long (((tv - (tv / (own_pw nN)) * (own_pw nN)) - (((tv / (own_pw ((nN - (1 : Int32)) - pP))) - ((tv / (own_pw ((nN - (1 : Int32)) - pP))) / (10 : Int64)) * (10 : Int64)) * (own_pw ((nN - (1 : Int32)) - pP)))) + (((cc - (48 : Int32)).toInt64) * (own_pw ((nN - (1 : Int32)) - pP))))), .second, .val (.int (([b901, b902, b903, b904, b905, b906, b907, b908, b909, b910, b911] : List Int32).getD (11 - nN.toInt.toNat) 0))]) rfl ?_
        refine XS.goto X951.here hx rfl (pc0 := 487) (pc' := 508) rfl (hb hby at_487) (by decide) (by decide) ?_
        refine XS.iload X951.here hx rfl (hb hby at_508) rfl ?_
        refine XS.iload X951.here hx rfl (hb hby at_510) rfl ?_
        refine XS.icmpNo X951.here hx rfl (hb hby at_512) rfl (own_icF_ne (own_qid_zero (by rw [ecs]; exact own_head hn c348 c475) (by rw [hl]; exact own_n1 hn c481))) ?_
        refine XS.iconst X951.here hx rfl (hb hby at_515) ?_
        refine XS.goto X951.here hx rfl (pc0 := 516) (pc' := 520) rfl (hb hby at_516) (by decide) (by decide) ?_
        exact hh)
       clear k125
       obtain ⟨fs, hr, hrun, hended, hEnd⟩ := X951.leaveW hS928 (by rw [e959]; exact (Nat.le_refl T913.heap.size)) (v := some (.int (1 : Int32))) (fun h => by rw [Bd.returns] at h; cases h)
       refine ⟨_, _, (own_from hB_ (k126 _ (retN X951 hx (t := .boolean) Bd.returns (by simp) (hb hby at_520) hr))), hrun, hended, _, _, rfl, ?_, hEnd.1, hEnd.2.1, hEnd.2.2.1, hEnd.2.2.2.mono (own_l rfl) (own_l rfl)⟩
       show QL h0 n0 _ T947.heap _
       rw [e959]
       exact ⟨rfl, N960⟩
      ·
       have k127 : own_J p e below T947 m 496 #[.val (.long xv), .second, .val (.int lv), .val (.int pv), .val (.int hv), .val (.int fv), .val (.ref a30), .val (.long tv), .second, .val (.int nN), .val (.int pP), .val (.int cc), .val (.int rp), .val (.ref a260), .val (.ref r934), .val (.int (own_qid cs)), .unset, .val (.int cd), .val (.long (((tv - (tv / (own_pw nN)) * (own_pw nN)) - (((tv / (own_pw ((nN - (1 : Int32)) - pP))) - ((tv / (own_pw ((nN - (1 : Int32)) - pP))) / (10 : Int64)) * (10 : Int64)) * (own_pw ((nN - (1 : Int32)) - pP)))) + (((cc - (48 : Int32)).toInt64) * (own_pw ((nN - (1 : Int32)) - pP))))), .second, .val (.int (([b901, b902, b903, b904, b905, b906, b907, b908, b909, b910, b911] : List Int32).getD (11 - nN.toInt.toNat) 0))] [(.int (lcmpW (((tv - (tv / (own_pw nN)) * (own_pw nN)) - (((tv / (own_pw ((nN - (1 : Int32)) - pP))) - ((tv / (own_pw ((nN - (1 : Int32)) - pP))) / (10 : Int64)) * (10 : Int64)) * (own_pw ((nN - (1 : Int32)) - pP)))) + (((cc - (48 : Int32)).toInt64) * (own_pw ((nN - (1 : Int32)) - pP)))) (2147483647 : Int64)))] B_ := fun t_ hh => k125 t_ (by
        refine XS.icmpYes X951.here hx rfl (pc0 := 481) (pc' := 490) rfl (hb hby at_481) rfl (own_icT_le c481) (by decide) (by decide) ?_
        refine XS.lload X951.here hx rfl (hb hby at_490) rfl ?_
        refine X951.ldc2Long hx hown930 (mvT hZ929 (wT hw 120 rfl)) (g := (mkF m 492 #[.val (.long xv), .second, .val (.int lv), .val (.int pv), .val (.int hv), .val (.int fv), .val (.ref a30), .val (.long tv), .second, .val (.int nN), .val (.int pP), .val (.int cc), .val (.int rp), .val (.ref a260), .val (.ref r934), .val (.int (own_qid cs)), .unset, .val (.int cd), .val (.long (((tv - (tv / (own_pw nN)) * (own_pw nN)) - (((tv / (own_pw ((nN - (1 : Int32)) - pP))) - ((tv / (own_pw ((nN - (1 : Int32)) - pP))) / (10 : Int64)) * (10 : Int64)) * (own_pw ((nN - (1 : Int32)) - pP)))) + (((cc - (48 : Int32)).toInt64) * (own_pw ((nN - (1 : Int32)) - pP))))), .second, .val (.int (([b901, b902, b903, b904, b905, b906, b907, b908, b909, b910, b911] : List Int32).getD (11 - nN.toInt.toNat) 0))] [(.long (((tv - (tv / (own_pw nN)) * (own_pw nN)) - (((tv / (own_pw ((nN - (1 : Int32)) - pP))) - ((tv / (own_pw ((nN - (1 : Int32)) - pP))) / (10 : Int64)) * (10 : Int64)) * (own_pw ((nN - (1 : Int32)) - pP)))) + (((cc - (48 : Int32)).toInt64) * (own_pw ((nN - (1 : Int32)) - pP)))))])) rfl (hb hby at_492) _ ?_
        refine XS.lcmp X951.here hx rfl (hb hby at_495) rfl ?_
        exact hh)
       clear k125
       by_cases c496 : 0 < (lcmpW (((tv - (tv / (own_pw nN)) * (own_pw nN)) - (((tv / (own_pw ((nN - (1 : Int32)) - pP))) - ((tv / (own_pw ((nN - (1 : Int32)) - pP))) / (10 : Int64)) * (10 : Int64)) * (own_pw ((nN - (1 : Int32)) - pP)))) + (((cc - (48 : Int32)).toInt64) * (own_pw ((nN - (1 : Int32)) - pP)))) (2147483647 : Int64))
       ·
        have k128 : own_J p e below T947 m 520 #[.val (.long xv), .second, .val (.int lv), .val (.int pv), .val (.int hv), .val (.int fv), .val (.ref a30), .val (.long tv), .second, .val (.int nN), .val (.int pP), .val (.int cc), .val (.int rp), .val (.ref a260), .val (.ref r934), .val (.int (own_qid cs)), .val (.int (-1 : Int32)), .val (.int cd), .val (.long (((tv - (tv / (own_pw nN)) * (own_pw nN)) - (((tv / (own_pw ((nN - (1 : Int32)) - pP))) - ((tv / (own_pw ((nN - (1 : Int32)) - pP))) / (10 : Int64)) * (10 : Int64)) * (own_pw ((nN - (1 : Int32)) - pP)))) + (((cc - (48 : Int32)).toInt64) * (own_pw ((nN - (1 : Int32)) - pP))))), .second, .val (.int (([b901, b902, b903, b904, b905, b906, b907, b908, b909, b910, b911] : List Int32).getD (11 - nN.toInt.toNat) 0))] [(.int (1 : Int32))] B_ := fun t_ hh => k127 t_ (by
         refine XS.ifYes X951.here hx rfl (pc0 := 496) (pc' := 505) rfl (hb hby at_496) rfl (own_ifT_gt c496) (by decide) (by decide) ?_
         refine XS.iconst X951.here hx rfl (hb hby at_505) ?_
         refine XS.istore X951.here hx rfl (hb hby at_506) rfl (l' := #[.val (.long xv), .second, .val (.int lv), .val (.int pv), .val (.int hv), .val (.int fv), .val (.ref a30), .val (.long tv), .second, .val (.int nN), .val (.int pP), .val (.int cc), .val (.int rp), .val (.ref a260), .val (.ref r934), .val (.int (own_qid cs)), .val (.int (-1 : Int32)), .val (.int cd), .val (.long (((tv - (tv / (own_pw nN)) * (own_pw nN)) - (((tv / (own_pw ((nN - (1 : Int32)) - pP))) - ((tv / (own_pw ((nN - (1 : Int32)) - pP))) / (10 : Int64)) * (10 : Int64)) * (own_pw ((nN - (1 : Int32)) - pP)))) + (((cc - (48 : Int32)).toInt64) * (own_pw ((nN - (1 : Int32)) - pP))))), .second, .val (.int (([b901, b902, b903, b904, b905, b906, b907, b908, b909, b910, b911] : List Int32).getD (11 - nN.toInt.toNat) 0))]) rfl ?_
         refine XS.iload X951.here hx rfl (hb hby at_508) rfl ?_
         refine XS.iload X951.here hx rfl (hb hby at_510) rfl ?_
         refine XS.icmpNo X951.here hx rfl (hb hby at_512) rfl (own_icF_ne ((own_fin (own_npos hl hn c348) (own_nle hl hn c355) (fun z => c481 (own_n1r hn (by rw [← hl]; exact z.2))) (own_digs (t := tv) ht ecs hbs898 hl hn (own_cdig hcd c392)) (own_vrep ht hbs898 hn hp (own_pn hrp c314) hcc c355 ecs hl)).trans (if_pos c496))) ?_
         refine XS.iconst X951.here hx rfl (hb hby at_515) ?_
         refine XS.goto X951.here hx rfl (pc0 := 516) (pc' := 520) rfl (hb hby at_516) (by decide) (by decide) ?_
         exact hh)
        clear k127
        obtain ⟨fs, hr, hrun, hended, hEnd⟩ := X951.leaveW hS928 (by rw [e959]; exact (Nat.le_refl T913.heap.size)) (v := some (.int (1 : Int32))) (fun h => by rw [Bd.returns] at h; cases h)
        refine ⟨_, _, (own_from hB_ (k128 _ (retN X951 hx (t := .boolean) Bd.returns (by simp) (hb hby at_520) hr))), hrun, hended, _, _, rfl, ?_, hEnd.1, hEnd.2.1, hEnd.2.2.1, hEnd.2.2.2.mono (own_l rfl) (own_l rfl)⟩
        show QL h0 n0 _ T947.heap _
        rw [e959]
        exact ⟨rfl, N960⟩
       ·
        have k129 : own_J p e below T947 m 520 #[.val (.long xv), .second, .val (.int lv), .val (.int pv), .val (.int hv), .val (.int fv), .val (.ref a30), .val (.long tv), .second, .val (.int nN), .val (.int pP), .val (.int cc), .val (.int rp), .val (.ref a260), .val (.ref r934), .val (.int (own_qid cs)), .val (.int ((((tv - (tv / (own_pw nN)) * (own_pw nN)) - (((tv / (own_pw ((nN - (1 : Int32)) - pP))) - ((tv / (own_pw ((nN - (1 : Int32)) - pP))) / (10 : Int64)) * (10 : Int64)) * (own_pw ((nN - (1 : Int32)) - pP)))) + (((cc - (48 : Int32)).toInt64) * (own_pw ((nN - (1 : Int32)) - pP)))).toInt32)), .val (.int cd), .val (.long (((tv - (tv / (own_pw nN)) * (own_pw nN)) - (((tv / (own_pw ((nN - (1 : Int32)) - pP))) - ((tv / (own_pw ((nN - (1 : Int32)) - pP))) / (10 : Int64)) * (10 : Int64)) * (own_pw ((nN - (1 : Int32)) - pP)))) + (((cc - (48 : Int32)).toInt64) * (own_pw ((nN - (1 : Int32)) - pP))))), .second, .val (.int (([b901, b902, b903, b904, b905, b906, b907, b908, b909, b910, b911] : List Int32).getD (11 - nN.toInt.toNat) 0))] [(.int (1 : Int32))] B_ := fun t_ hh => k127 t_ (by
         refine XS.ifNo X951.here hx rfl (hb hby at_496) rfl (own_ifF_gt c496) ?_
         refine XS.lload X951.here hx rfl (hb hby at_499) rfl ?_
         refine XS.l2i X951.here hx rfl (hb hby at_501) rfl ?_
         refine XS.goto X951.here hx rfl (pc0 := 502) (pc' := 506) rfl (hb hby at_502) (by decide) (by decide) ?_
         refine XS.istore X951.here hx rfl (hb hby at_506) rfl (l' := #[.val (.long xv), .second, .val (.int lv), .val (.int pv), .val (.int hv), .val (.int fv), .val (.ref a30), .val (.long tv), .second, .val (.int nN), .val (.int pP), .val (.int cc), .val (.int rp), .val (.ref a260), .val (.ref r934), .val (.int (own_qid cs)), .val (.int ((((tv - (tv / (own_pw nN)) * (own_pw nN)) - (((tv / (own_pw ((nN - (1 : Int32)) - pP))) - ((tv / (own_pw ((nN - (1 : Int32)) - pP))) / (10 : Int64)) * (10 : Int64)) * (own_pw ((nN - (1 : Int32)) - pP)))) + (((cc - (48 : Int32)).toInt64) * (own_pw ((nN - (1 : Int32)) - pP)))).toInt32)), .val (.int cd), .val (.long (((tv - (tv / (own_pw nN)) * (own_pw nN)) - (((tv / (own_pw ((nN - (1 : Int32)) - pP))) - ((tv / (own_pw ((nN - (1 : Int32)) - pP))) / (10 : Int64)) * (10 : Int64)) * (own_pw ((nN - (1 : Int32)) - pP)))) + (((cc - (48 : Int32)).toInt64) * (own_pw ((nN - (1 : Int32)) - pP))))), .second, .val (.int (([b901, b902, b903, b904, b905, b906, b907, b908, b909, b910, b911] : List Int32).getD (11 - nN.toInt.toNat) 0))]) rfl ?_
         refine XS.iload X951.here hx rfl (hb hby at_508) rfl ?_
         refine XS.iload X951.here hx rfl (hb hby at_510) rfl ?_
         refine XS.icmpNo X951.here hx rfl (hb hby at_512) rfl (own_icF_ne ((own_fin (own_npos hl hn c348) (own_nle hl hn c355) (fun z => c481 (own_n1r hn (by rw [← hl]; exact z.2))) (own_digs (t := tv) ht ecs hbs898 hl hn (own_cdig hcd c392)) (own_vrep ht hbs898 hn hp (own_pn hrp c314) hcc c355 ecs hl)).trans (if_neg c496))) ?_
         refine XS.iconst X951.here hx rfl (hb hby at_515) ?_
         refine XS.goto X951.here hx rfl (pc0 := 516) (pc' := 520) rfl (hb hby at_516) (by decide) (by decide) ?_
         exact hh)
        clear k127
        obtain ⟨fs, hr, hrun, hended, hEnd⟩ := X951.leaveW hS928 (by rw [e959]; exact (Nat.le_refl T913.heap.size)) (v := some (.int (1 : Int32))) (fun h => by rw [Bd.returns] at h; cases h)
        refine ⟨_, _, (own_from hB_ (k129 _ (retN X951 hx (t := .boolean) Bd.returns (by simp) (hb hby at_520) hr))), hrun, hended, _, _, rfl, ?_, hEnd.1, hEnd.2.1, hEnd.2.2.1, hEnd.2.2.2.mono (own_l rfl) (own_l rfl)⟩
        show QL h0 n0 _ T947.heap _
        rw [e959]
        exact ⟨rfl, N960⟩
     ·
      have k130 : own_J p e below T947 m 496 #[.val (.long xv), .second, .val (.int lv), .val (.int pv), .val (.int hv), .val (.int fv), .val (.ref a30), .val (.long tv), .second, .val (.int nN), .val (.int pP), .val (.int cc), .val (.int rp), .val (.ref a260), .val (.ref r934), .val (.int (own_qid cs)), .unset, .val (.int cd), .val (.long (((tv - (tv / (own_pw nN)) * (own_pw nN)) - (((tv / (own_pw ((nN - (1 : Int32)) - pP))) - ((tv / (own_pw ((nN - (1 : Int32)) - pP))) / (10 : Int64)) * (10 : Int64)) * (own_pw ((nN - (1 : Int32)) - pP)))) + (((cc - (48 : Int32)).toInt64) * (own_pw ((nN - (1 : Int32)) - pP))))), .second, .val (.int (([b901, b902, b903, b904, b905, b906, b907, b908, b909, b910, b911] : List Int32).getD (11 - nN.toInt.toNat) 0))] [(.int (lcmpW (((tv - (tv / (own_pw nN)) * (own_pw nN)) - (((tv / (own_pw ((nN - (1 : Int32)) - pP))) - ((tv / (own_pw ((nN - (1 : Int32)) - pP))) / (10 : Int64)) * (10 : Int64)) * (own_pw ((nN - (1 : Int32)) - pP)))) + (((cc - (48 : Int32)).toInt64) * (own_pw ((nN - (1 : Int32)) - pP)))) (2147483647 : Int64)))] B_ := fun t_ hh => k124 t_ (by
       refine XS.icmpYes X951.here hx rfl (pc0 := 475) (pc' := 490) rfl (hb hby at_475) rfl (own_icT_ne c475) (by decide) (by decide) ?_
       refine XS.lload X951.here hx rfl (hb hby at_490) rfl ?_
       refine X951.ldc2Long hx hown930 (mvT hZ929 (wT hw 120 rfl)) (g := (mkF m 492 #[.val (.long xv), .second, .val (.int lv), .val (.int pv), .val (.int hv), .val (.int fv), .val (.ref a30), .val (.long tv), .second, .val (.int nN), .val (.int pP), .val (.int cc), .val (.int rp), .val (.ref a260), .val (.ref r934), .val (.int (own_qid cs)), .unset, .val (.int cd), .val (.long (((tv - (tv / (own_pw nN)) * (own_pw nN)) - (((tv / (own_pw ((nN - (1 : Int32)) - pP))) - ((tv / (own_pw ((nN - (1 : Int32)) - pP))) / (10 : Int64)) * (10 : Int64)) * (own_pw ((nN - (1 : Int32)) - pP)))) + (((cc - (48 : Int32)).toInt64) * (own_pw ((nN - (1 : Int32)) - pP))))), .second, .val (.int (([b901, b902, b903, b904, b905, b906, b907, b908, b909, b910, b911] : List Int32).getD (11 - nN.toInt.toNat) 0))] [(.long (((tv - (tv / (own_pw nN)) * (own_pw nN)) - (((tv / (own_pw ((nN - (1 : Int32)) - pP))) - ((tv / (own_pw ((nN - (1 : Int32)) - pP))) / (10 : Int64)) * (10 : Int64)) * (own_pw ((nN - (1 : Int32)) - pP)))) + (((cc - (48 : Int32)).toInt64) * (own_pw ((nN - (1 : Int32)) - pP)))))])) rfl (hb hby at_492) _ ?_
       refine XS.lcmp X951.here hx rfl (hb hby at_495) rfl ?_
       exact hh)
      clear k124
      by_cases c496 : 0 < (lcmpW (((tv - (tv / (own_pw nN)) * (own_pw nN)) - (((tv / (own_pw ((nN - (1 : Int32)) - pP))) - ((tv / (own_pw ((nN - (1 : Int32)) - pP))) / (10 : Int64)) * (10 : Int64)) * (own_pw ((nN - (1 : Int32)) - pP)))) + (((cc - (48 : Int32)).toInt64) * (own_pw ((nN - (1 : Int32)) - pP)))) (2147483647 : Int64))
      ·
       have k131 : own_J p e below T947 m 520 #[.val (.long xv), .second, .val (.int lv), .val (.int pv), .val (.int hv), .val (.int fv), .val (.ref a30), .val (.long tv), .second, .val (.int nN), .val (.int pP), .val (.int cc), .val (.int rp), .val (.ref a260), .val (.ref r934), .val (.int (own_qid cs)), .val (.int (-1 : Int32)), .val (.int cd), .val (.long (((tv - (tv / (own_pw nN)) * (own_pw nN)) - (((tv / (own_pw ((nN - (1 : Int32)) - pP))) - ((tv / (own_pw ((nN - (1 : Int32)) - pP))) / (10 : Int64)) * (10 : Int64)) * (own_pw ((nN - (1 : Int32)) - pP)))) + (((cc - (48 : Int32)).toInt64) * (own_pw ((nN - (1 : Int32)) - pP))))), .second, .val (.int (([b901, b902, b903, b904, b905, b906, b907, b908, b909, b910, b911] : List Int32).getD (11 - nN.toInt.toNat) 0))] [(.int (1 : Int32))] B_ := fun t_ hh => k130 t_ (by
        refine XS.ifYes X951.here hx rfl (pc0 := 496) (pc' := 505) rfl (hb hby at_496) rfl (own_ifT_gt c496) (by decide) (by decide) ?_
        refine XS.iconst X951.here hx rfl (hb hby at_505) ?_
        refine XS.istore X951.here hx rfl (hb hby at_506) rfl (l' := #[.val (.long xv), .second, .val (.int lv), .val (.int pv), .val (.int hv), .val (.int fv), .val (.ref a30), .val (.long tv), .second, .val (.int nN), .val (.int pP), .val (.int cc), .val (.int rp), .val (.ref a260), .val (.ref r934), .val (.int (own_qid cs)), .val (.int (-1 : Int32)), .val (.int cd), .val (.long (((tv - (tv / (own_pw nN)) * (own_pw nN)) - (((tv / (own_pw ((nN - (1 : Int32)) - pP))) - ((tv / (own_pw ((nN - (1 : Int32)) - pP))) / (10 : Int64)) * (10 : Int64)) * (own_pw ((nN - (1 : Int32)) - pP)))) + (((cc - (48 : Int32)).toInt64) * (own_pw ((nN - (1 : Int32)) - pP))))), .second, .val (.int (([b901, b902, b903, b904, b905, b906, b907, b908, b909, b910, b911] : List Int32).getD (11 - nN.toInt.toNat) 0))]) rfl ?_
        refine XS.iload X951.here hx rfl (hb hby at_508) rfl ?_
        refine XS.iload X951.here hx rfl (hb hby at_510) rfl ?_
        refine XS.icmpNo X951.here hx rfl (hb hby at_512) rfl (own_icF_ne ((own_fin (own_npos hl hn c348) (own_nle hl hn c355) (fun z => c475 (by rw [← own_head_eq (bs := [b901, b902, b903, b904, b905, b906, b907, b908, b909, b910, b911]) hn c348]; rw [ecs] at z; exact z.1)) (own_digs (t := tv) ht ecs hbs898 hl hn (own_cdig hcd c392)) (own_vrep ht hbs898 hn hp (own_pn hrp c314) hcc c355 ecs hl)).trans (if_pos c496))) ?_
        refine XS.iconst X951.here hx rfl (hb hby at_515) ?_
        refine XS.goto X951.here hx rfl (pc0 := 516) (pc' := 520) rfl (hb hby at_516) (by decide) (by decide) ?_
        exact hh)
       clear k130
       obtain ⟨fs, hr, hrun, hended, hEnd⟩ := X951.leaveW hS928 (by rw [e959]; exact (Nat.le_refl T913.heap.size)) (v := some (.int (1 : Int32))) (fun h => by rw [Bd.returns] at h; cases h)
       refine ⟨_, _, (own_from hB_ (k131 _ (retN X951 hx (t := .boolean) Bd.returns (by simp) (hb hby at_520) hr))), hrun, hended, _, _, rfl, ?_, hEnd.1, hEnd.2.1, hEnd.2.2.1, hEnd.2.2.2.mono (own_l rfl) (own_l rfl)⟩
       show QL h0 n0 _ T947.heap _
       rw [e959]
       exact ⟨rfl, N960⟩
      ·
       have k132 : own_J p e below T947 m 520 #[.val (.long xv), .second, .val (.int lv), .val (.int pv), .val (.int hv), .val (.int fv), .val (.ref a30), .val (.long tv), .second, .val (.int nN), .val (.int pP), .val (.int cc), .val (.int rp), .val (.ref a260), .val (.ref r934), .val (.int (own_qid cs)), .val (.int ((((tv - (tv / (own_pw nN)) * (own_pw nN)) - (((tv / (own_pw ((nN - (1 : Int32)) - pP))) - ((tv / (own_pw ((nN - (1 : Int32)) - pP))) / (10 : Int64)) * (10 : Int64)) * (own_pw ((nN - (1 : Int32)) - pP)))) + (((cc - (48 : Int32)).toInt64) * (own_pw ((nN - (1 : Int32)) - pP)))).toInt32)), .val (.int cd), .val (.long (((tv - (tv / (own_pw nN)) * (own_pw nN)) - (((tv / (own_pw ((nN - (1 : Int32)) - pP))) - ((tv / (own_pw ((nN - (1 : Int32)) - pP))) / (10 : Int64)) * (10 : Int64)) * (own_pw ((nN - (1 : Int32)) - pP)))) + (((cc - (48 : Int32)).toInt64) * (own_pw ((nN - (1 : Int32)) - pP))))), .second, .val (.int (([b901, b902, b903, b904, b905, b906, b907, b908, b909, b910, b911] : List Int32).getD (11 - nN.toInt.toNat) 0))] [(.int (1 : Int32))] B_ := fun t_ hh => k130 t_ (by
        refine XS.ifNo X951.here hx rfl (hb hby at_496) rfl (own_ifF_gt c496) ?_
        refine XS.lload X951.here hx rfl (hb hby at_499) rfl ?_
        refine XS.l2i X951.here hx rfl (hb hby at_501) rfl ?_
        refine XS.goto X951.here hx rfl (pc0 := 502) (pc' := 506) rfl (hb hby at_502) (by decide) (by decide) ?_
        refine XS.istore X951.here hx rfl (hb hby at_506) rfl (l' := #[.val (.long xv), .second, .val (.int lv), .val (.int pv), .val (.int hv), .val (.int fv), .val (.ref a30), .val (.long tv), .second, .val (.int nN), .val (.int pP), .val (.int cc), .val (.int rp), .val (.ref a260), .val (.ref r934), .val (.int (own_qid cs)), .val (.int ((((tv - (tv / (own_pw nN)) * (own_pw nN)) - (((tv / (own_pw ((nN - (1 : Int32)) - pP))) - ((tv / (own_pw ((nN - (1 : Int32)) - pP))) / (10 : Int64)) * (10 : Int64)) * (own_pw ((nN - (1 : Int32)) - pP)))) + (((cc - (48 : Int32)).toInt64) * (own_pw ((nN - (1 : Int32)) - pP)))).toInt32)), .val (.int cd), .val (.long (((tv - (tv / (own_pw nN)) * (own_pw nN)) - (((tv / (own_pw ((nN - (1 : Int32)) - pP))) - ((tv / (own_pw ((nN - (1 : Int32)) - pP))) / (10 : Int64)) * (10 : Int64)) * (own_pw ((nN - (1 : Int32)) - pP)))) + (((cc - (48 : Int32)).toInt64) * (own_pw ((nN - (1 : Int32)) - pP))))), .second, .val (.int (([b901, b902, b903, b904, b905, b906, b907, b908, b909, b910, b911] : List Int32).getD (11 - nN.toInt.toNat) 0))]) rfl ?_
        refine XS.iload X951.here hx rfl (hb hby at_508) rfl ?_
        refine XS.iload X951.here hx rfl (hb hby at_510) rfl ?_
        refine XS.icmpNo X951.here hx rfl (hb hby at_512) rfl (own_icF_ne ((own_fin (own_npos hl hn c348) (own_nle hl hn c355) (fun z => c475 (by rw [← own_head_eq (bs := [b901, b902, b903, b904, b905, b906, b907, b908, b909, b910, b911]) hn c348]; rw [ecs] at z; exact z.1)) (own_digs (t := tv) ht ecs hbs898 hl hn (own_cdig hcd c392)) (own_vrep ht hbs898 hn hp (own_pn hrp c314) hcc c355 ecs hl)).trans (if_neg c496))) ?_
        refine XS.iconst X951.here hx rfl (hb hby at_515) ?_
        refine XS.goto X951.here hx rfl (pc0 := 516) (pc' := 520) rfl (hb hby at_516) (by decide) (by decide) ?_
        exact hh)
       clear k130
       obtain ⟨fs, hr, hrun, hended, hEnd⟩ := X951.leaveW hS928 (by rw [e959]; exact (Nat.le_refl T913.heap.size)) (v := some (.int (1 : Int32))) (fun h => by rw [Bd.returns] at h; cases h)
       refine ⟨_, _, (own_from hB_ (k132 _ (retN X951 hx (t := .boolean) Bd.returns (by simp) (hb hby at_520) hr))), hrun, hended, _, _, rfl, ?_, hEnd.1, hEnd.2.1, hEnd.2.2.1, hEnd.2.2.2.mono (own_l rfl) (own_l rfl)⟩
       show QL h0 n0 _ T947.heap _
       rw [e959]
       exact ⟨rfl, N960⟩
set_option maxRecDepth 65536 in
set_option maxHeartbeats 40000000 in
theorem comes_1 {Post : Tables → Env → Array Value → State → Outcome → State → Prop} (hpost : ∀ tb e args s v u, (limb_1_1.after args s (.returned v) u = true ∧ limb_1_2.after args s (.returned v) u = true ∧ True) → ReturnedEndW s (.returned v) u (Jvm.fieldLocs frame_1_writes args s ++ Jvm.arrayLocs frame_1_arrays args s ++ Jvm.staticLocs frame_1_statics s) 24 1280 → Post tb e args s (.returned v) u) :
    ArmFor flags0 classFile x code maxLocals ret World_1 tables_1 room_1 Calls_1 rest_1 Pre_1 Post := by
  intro l hfl _ _ p e ha hc hk s m args below hf hA hF happ hP
  obtain ⟨hcalls, hrest, hpre⟩ := hP
  obtain ⟨-, -, -, hnamed, -, -, -, hat⟩ := (Spec.applies_iff hf).mp happ
  obtain ⟨hg, hn⟩ := and_e (Cond.before_iff.mp (show (Jvm.Cond.and given_1 narrow_1).before args s = true from hpre))
  obtain ⟨h1, g0⟩ := and_e hg
  obtain ⟨j0, g1⟩ := and_e g0
  obtain ⟨j1, g2⟩ := and_e g1
  obtain ⟨j2, g3⟩ := and_e g2
  obtain ⟨j3, g4⟩ := and_e g3
  have j4 := g4
  obtain ⟨w0, w1, w2, w3, w4, rfl⟩ : ∃ w0 w1 w2 w3 w4 : Value, args = #[w0, w1, w2, w3, w4] := by
    have hs : args.size = 5 := by simpa [Cond.value, given_1] using h1
    obtain ⟨L⟩ := args
    match L, hs with
    | [w0, w1, w2, w3, w4], _ => exact ⟨w0, w1, w2, w3, w4, rfl⟩
  have hw := fun d (hd : d ∈ tables_1) => atoms_spec (ws := Jvm.Cond.code x code maxLocals ret :: tables_1) hat d (List.mem_cons_of_mem _ hd)
  have hfit : Fit s := fun {y c} hc i hi => by
    obtain ⟨ha, rfl⟩ := Array.getElem?_eq_some_iff.mp hc
    have q := List.all_eq_true.mp ((Array.all_eq_true_iff_forall_mem.mp hF) _ (Array.getElem_mem ha)) i (List.mem_range.mpr hi)
    simpa [Array.getElem?_eq_getElem hi] using q
  obtain ⟨i0, q0⟩ := isL_v j0
  obtain rfl : w0 = (.long i0) := Option.some.inj q0
  obtain ⟨i1, q1⟩ := is_v j1
  obtain rfl : w1 = (.int i1) := Option.some.inj q1
  obtain ⟨i2, q2⟩ := is_v j2
  obtain rfl : w2 = (.int i2) := Option.some.inj q2
  obtain ⟨i3, q3⟩ := is_v j3
  obtain rfl : w3 = (.int i3) := Option.some.inj q3
  obtain ⟨i4, q4⟩ := is_v j4
  obtain rfl : w4 = (.int i4) := Option.some.inj q4
  obtain ⟨hsets, hown0⟩ := atoms_of _ (rest_1_c_eq ▸ (show rest_1_c.before _ s = true from hrest))
  have n5 := not_v (Cond.before_iff.mp (hsets _ (List.mem_of_getElem? (i := 2) rfl)))
  obtain ⟨ci, eci⟩ := is_v (Cond.before_iff.mp (hsets _ (List.mem_of_getElem? (i := 1) rfl)))
  have sC : Sta s s.heap "java/lang/String" "COMPACT_STRINGS" "Z" (.int ci) := Sta.start eci (Or.inl (hsets _ (List.mem_of_getElem? (i := 0) rfl)))
  have hc0 : ¬ ci = 0 := gotF (Cond.eq_ints eci (Term.int_eval 0)) n5
  obtain ⟨gv, egv, hg⟩ := isR_v (Cond.before_iff.mp (hsets _ (List.mem_of_getElem? (i := 8) rfl)))
  have sG : Sta s s.heap "jdk/internal/util/Preconditions" "SIOOBE_FORMATTER" "Ljava/util/function/BiFunction;" gv := Sta.start egv (Or.inl (hsets _ (List.mem_of_getElem? (i := 7) rfl)))
  have sA : Sta s s.heap "java/lang/StringUTF16" "$assertionsDisabled" "Z" (.int (1 : Int32)) := Sta.start (own_eqInt (Cond.before_iff.mp (hsets _ (List.mem_of_getElem? (i := 12) rfl)))) (Or.inl (hsets _ (List.mem_of_getElem? (i := 11) rfl)))
  have sH : Sta s s.heap "java/lang/StringUTF16" "HI_BYTE_SHIFT" "I" (.int (0 : Int32)) := Sta.start (own_eqInt (Cond.before_iff.mp (hsets _ (List.mem_of_getElem? (i := 15) rfl)))) (Or.inl (hsets _ (List.mem_of_getElem? (i := 14) rfl)))
  have sL : Sta s s.heap "java/lang/StringUTF16" "LO_BYTE_SHIFT" "I" (.int (8 : Int32)) := Sta.start (own_eqInt (Cond.before_iff.mp (hsets _ (List.mem_of_getElem? (i := 18) rfl)))) (Or.inl (hsets _ (List.mem_of_getElem? (i := 17) rfl)))
  have hCH : CHv s own_EL s.vm s.heap := CHv.start (own_EW hw) (fun p hp => hcalls.1 p hp) (hsets _ (List.mem_of_getElem? (i := 2) rfl)) (wT hw 41 rfl) (wT hw 24 rfl)
  obtain ⟨n, o, h1, h2, h3, _, L, rfl, ⟨rfl, N⟩, hq⟩ := rmL l s _ hw tables_1 i0 i1 i2 i3 i4 s.heap s.heap.size (Nat.le_refl _) (Old.start s) ci sC hc0 gv sG hg sA sH sL p e ha hc hk s m _ below hf ((Spec.applies_iff_loose hf).mp happ).1 ⟨rfl, State.Warmed39.refl s, rfl, hCH⟩ trivial
  refine ⟨n, _, h1, h2, h3, hpost _ _ _ _ _ _ ⟨Cond.after_iff.mpr rfl, Cond.after_iff.mpr (eq_i res_at (Term.int_eval (1)) rfl), trivial⟩ ⟨hq.1, hq.2.1, hq.2.2.1, (hq.2.2.2.sift fun y hy => Or.inr (N y hy)).mono (by decide) (by decide)⟩⟩
theorem main_1_1 : Claimed_1_1 := comes_1 fun _ _ _ _ _ _ h hF => ⟨h.1, hF⟩
theorem main_1_2 : Claimed_1_2 := comes_1 fun _ _ _ _ _ _ h hF => ⟨h.2.1, hF⟩
end Jvm.Pilot.@@N@@
namespace Jvm.Pilot.@@N@@
open Jvm Jvm.ClassFile Sem Op Lib Jvm.Free Jvm.Stand Jvm.Pilot.@@N@@.Jvm.D
/-! MADE BY PROGRAM (witnessworld.py) out of the Statement's table words and the real class files: 22 classes; the members and pool entries that the words name. The judged class is class 1, her method 1. -/
namespace start1
open Jvm.ClassFile
def u (s : String) : CpInfo := .utf8 (stringToUtf16 s)
/-- a pool by its gaps: so many unusable entries, then the entry; so many at the end -/
def gap : Nat → List CpInfo → List CpInfo
  | 0, r => r
  | n + 1, r => .unusable :: gap n r
def poolList (es : List (Nat × CpInfo)) (last : Nat) : List CpInfo := es.foldr (fun e r => gap e.1 (e.2 :: r)) (gap last [])
def pool (es : List (Nat × CpInfo)) (last : Nat) : Array CpInfo := ⟨poolList es last⟩
def fileOf (pool : Array CpInfo) (this : Nat) (attrs : Array Attribute := #[]) (ms : Array MethodInfo := #[]) (fl : Nat := 33) (sup : Nat := 0) (ifs : Array Nat := #[]) (fds : Array FieldInfo := #[]) : ClassFile where
  minorVersion := 0
  majorVersion := 65
  constantPool := pool
  accessFlags := fl
  thisClass := this
  superClass := sup
  interfaces := ifs
  fields := fds
  methods := ms
  attributes := attrs
def plain (name : String) (sup : Option ClassId) : Class where
  name := name
  kind := .ordinary
  loader := none
  accessFlags := 33
  super := sup
  interfaces := #[]
  cf := none
  fields := #[]
  methods := #[]
  instanceTypes := #[]
  staticTypes := #[]
  resolved := #[]
  callSites := []
  init := .initialized
  statics := none
  mirror := none

def pool0 : Array CpInfo := pool [(5, u "<init>"), (0, u "()V"), (1, .class_ 10), (1, u "java/lang/Object")] 113

def k0c0 : Code := { maxStack := 0, maxLocals := 1, code := object_method_1_code, exceptionTable := #[], attributes := #[] }
def k0m0 : Method := { name := "<init>", desc := "()V", sig := { parameters := [], returnType := none }, accessFlags := 1, code := some k0c0 }
/-- java/lang/Object -/
def k0 : Class := { plain "java/lang/Object" none with
  accessFlags := 33
  interfaces := #[]
  cf := some (fileOf pool0 8 #[] #[{ accessFlags := 1, nameIndex := 5, descriptorIndex := 6, attributes := #[] }] 33 0 #[] #[])
  fields := #[]
  methods := #[k0m0]
  instanceTypes := #[]
  staticTypes := #[]
  resolved := Array.replicate 124 none
  statics := none }

def pool1 : Array CpInfo := pool [(2, .class_ 4), (1, u "java/lang/Object"), (0, u "<init>"), (0, u "()V"), (0, .long 10), (1, .long 100), (1, .long 1000), (1, .long 10000), (1, .long 100000), (1, .long 1000000), (1, .long 10000000), (1, .long 100000000), (1, .long 1000000000), (1, .long 10000000000), (1, .long 100000000000), (3, .long 9223372036854775807), (1, .integer 2147483647), (0, .integer 65535), (0, .methodref 36 37), (0, .class_ 38), (0, .nameAndType 39 40), (0, u "com/example/commitlog/commitlog/ConsumeQueuesQueueIdOfPinLaw"), (0, u "digit"), (0, u "(JJ)C"), (0, .methodref 36 42), (0, .nameAndType 43 44), (0, u "make"), (0, u "([CI)Ljava/lang/String;"), (0, .methodref 46 47), (0, .class_ 48), (0, .nameAndType 49 50), (0, u "com/example/commitlog/commitlog/ConsumeQueues"), (0, u "queueIdOf"), (0, u "(Ljava/lang/String;)I"), (2, .long 2147483647), (1, .class_ 56), (0, u "java/lang/String"), (0, .methodref 55 58), (0, .nameAndType 5 59), (0, u "([C)V"), (2, u "law"), (0, u "(JIIII)Z")] 7

def k1m0 : Method := { name := "<init>", desc := "()V", sig := { parameters := [], returnType := none }, accessFlags := 2, code := none }
def k1c1 : Code := { maxStack := 6, maxLocals := 21, code := code, exceptionTable := #[], attributes := #[] }
def k1m1 : Method := { name := "law", desc := "(JIIII)Z", sig := { parameters := [.long, .int, .int, .int, .int], returnType := some .boolean }, accessFlags := 9, code := some k1c1 }
def k1c2 : Code := { maxStack := 5, maxLocals := 4, code := method_3_code, exceptionTable := #[], attributes := #[] }
def k1m2 : Method := { name := "digit", desc := "(JJ)C", sig := { parameters := [.long, .long], returnType := some .char }, accessFlags := 10, code := some k1c2 }
def k1c3 : Code := { maxStack := 7, maxLocals := 2, code := method_4_code, exceptionTable := #[], attributes := #[] }
def k1m3 : Method := { name := "make", desc := "([CI)Ljava/lang/String;", sig := { parameters := [(.array .char), .int], returnType := some (.object "java/lang/String") }, accessFlags := 10, code := some k1c3 }
/-- com/example/commitlog/commitlog/ConsumeQueuesQueueIdOfPinLaw -/
def k1 : Class := { plain "com/example/commitlog/commitlog/ConsumeQueuesQueueIdOfPinLaw" (some 0) with
  accessFlags := 49
  interfaces := #[]
  cf := some (fileOf pool1 36 #[] #[{ accessFlags := 2, nameIndex := 5, descriptorIndex := 6, attributes := #[] }, { accessFlags := 9, nameIndex := 62, descriptorIndex := 63, attributes := #[] }, { accessFlags := 10, nameIndex := 39, descriptorIndex := 40, attributes := #[] }, { accessFlags := 10, nameIndex := 43, descriptorIndex := 44, attributes := #[] }] 49 2 #[] #[])
  fields := #[]
  methods := #[k1m0, k1m1, k1m2, k1m3]
  instanceTypes := #[]
  staticTypes := #[]
  resolved := Array.replicate 71 none
  statics := none }

def pool2 : Array CpInfo := pool [(1, .class_ 2), (0, u "java/io/Serializable"), (0, .class_ 4), (0, u "java/lang/Object")] 2

/-- java/io/Serializable -/
def k2 : Class := { plain "java/io/Serializable" (some 0) with
  accessFlags := 1537
  interfaces := #[]
  cf := some (fileOf pool2 1 #[] #[] 1537 3 #[] #[])
  fields := #[]
  methods := #[]
  instanceTypes := #[]
  staticTypes := #[]
  resolved := Array.replicate 7 none
  statics := none }

def pool3 : Array CpInfo := pool [(1, .class_ 2), (0, u "java/lang/Comparable"), (0, .class_ 4), (0, u "java/lang/Object")] 7

/-- java/lang/Comparable -/
def k3 : Class := { plain "java/lang/Comparable" (some 0) with
  accessFlags := 1537
  interfaces := #[]
  cf := some (fileOf pool3 1 #[] #[] 1537 3 #[] #[])
  fields := #[]
  methods := #[]
  instanceTypes := #[]
  staticTypes := #[]
  resolved := Array.replicate 12 none
  statics := none }

def pool4 : Array CpInfo := pool [(2, .class_ 4), (1, u "java/lang/CharSequence"), (42, .class_ 48), (0, u "java/lang/CharSequence$1CodePointIterator"), (10, .class_ 60), (0, u "java/lang/CharSequence$1CharIterator"), (5, .class_ 67), (0, u "java/lang/Object")] 63

/-- java/lang/CharSequence -/
def k4 : Class := { plain "java/lang/CharSequence" (some 0) with
  accessFlags := 1537
  interfaces := #[]
  cf := some (fileOf pool4 2 #[.nestMembers #[47, 59]] #[] 1537 66 #[] #[])
  fields := #[]
  methods := #[]
  instanceTypes := #[]
  staticTypes := #[]
  resolved := Array.replicate 131 none
  statics := none }

def pool5 : Array CpInfo := pool [(1, .class_ 2), (0, u "java/lang/constant/Constable"), (0, .class_ 4), (0, u "java/lang/Object")] 6

/-- java/lang/constant/Constable -/
def k5 : Class := { plain "java/lang/constant/Constable" (some 0) with
  accessFlags := 1537
  interfaces := #[]
  cf := some (fileOf pool5 1 #[] #[] 1537 3 #[] #[])
  fields := #[]
  methods := #[]
  instanceTypes := #[]
  staticTypes := #[]
  resolved := Array.replicate 11 none
  statics := none }

def pool6 : Array CpInfo := pool [(1, .class_ 2), (0, u "java/lang/constant/ConstantDesc"), (0, .class_ 4), (0, u "java/lang/Object")] 32

/-- java/lang/constant/ConstantDesc -/
def k6 : Class := { plain "java/lang/constant/ConstantDesc" (some 0) with
  accessFlags := 1537
  interfaces := #[]
  cf := some (fileOf pool6 1 #[] #[] 1537 3 #[] #[])
  fields := #[]
  methods := #[]
  instanceTypes := #[]
  staticTypes := #[]
  resolved := Array.replicate 37 none
  statics := none }

def pool7 : Array CpInfo := pool [(1, .methodref 2 3), (0, .class_ 4), (0, .nameAndType 5 6), (0, u "java/lang/Object"), (0, u "<init>"), (0, u "()V"), (0, .string 8), (0, u ""), (0, .fieldref 10 11), (0, .class_ 12), (0, .nameAndType 13 14), (0, u "java/lang/String"), (0, u "value"), (0, u "[B"), (0, .fieldref 10 16), (0, .nameAndType 17 18), (0, u "coder"), (0, u "B"), (2, u "hash"), (0, u "I"), (2, u "hashIsZero"), (0, u "Z"), (0, .methodref 10 28), (0, .nameAndType 5 29), (0, u "([CIILjava/lang/Void;)V"), (8, .fieldref 10 39), (0, .nameAndType 40 26), (0, u "COMPACT_STRINGS"), (1, .class_ 44), (1, u "java/lang/StringUTF16"), (0, u "compress"), (1, .methodref 42 48), (0, .nameAndType 49 50), (0, u "coderFromArrayLen"), (0, u "([BI)B"), (56, .class_ 109), (1, u "java/lang/StringLatin1"), (32, u "()Z"), (34, .methodref 42 178), (0, .nameAndType 45 179), (0, u "([CII)[B"), (154, u "()I"), (0, .methodref 10 336), (0, .nameAndType 17 337), (0, u "()B"), (25, u "([BI)C"), (27, u "(II)V"), (35, u "(I)C"), (64, .methodref 10 493), (0, .nameAndType 494 142), (0, u "isLatin1"), (0, .methodref 107 496), (0, .nameAndType 497 363), (0, u "charAt"), (0, .methodref 42 496), (2, u "checkIndex"), (5, u "length"), (67, .class_ 576), (0, u "java/lang/CharSequence"), (22, u "CASE_INSENSITIVE_ORDER"), (0, u "Ljava/util/Comparator;"), (409, u "([C)V"), (42, .fieldref 1054 1055), (0, .class_ 1056), (0, .nameAndType 1057 1058), (0, u "jdk/internal/util/Preconditions"), (0, u "SIOOBE_FORMATTER"), (0, u "Ljava/util/function/BiFunction;"), (0, .methodref 1054 1060), (0, .nameAndType 501 1061), (0, u "(IILjava/util/function/BiFunction;)I"), (39, u "serialPersistentFields"), (0, u "[Ljava/io/ObjectStreamField;"), (0, .class_ 1104), (0, u "java/lang/String$CaseInsensitiveComparator"), (1, .class_ 1107), (0, u "java/io/Serializable"), (0, .class_ 1109), (0, u "java/lang/Comparable"), (0, .class_ 1111), (0, u "java/lang/constant/Constable"), (0, .class_ 1113), (0, u "java/lang/constant/ConstantDesc"), (2, u "serialVersionUID"), (0, u "J"), (3, u "REPL"), (0, u "C"), (2, u "LATIN1"), (1, u "UTF16")] 323

def k7m0 : Method := { name := "<init>", desc := "()V", sig := { parameters := [], returnType := none }, accessFlags := 1, code := none }
def k7c1 : Code := { maxStack := 5, maxLocals := 2, code := jdk_42_method_3_code, exceptionTable := #[], attributes := #[] }
def k7m1 : Method := { name := "<init>", desc := "([C)V", sig := { parameters := [(.array .char)], returnType := none }, accessFlags := 1, code := some k7c1 }
def k7c2 : Code := { maxStack := 2, maxLocals := 1, code := jdk_42_method_54_code, exceptionTable := #[], attributes := #[] }
def k7m2 : Method := { name := "length", desc := "()I", sig := { parameters := [], returnType := some .int }, accessFlags := 1, code := some k7c2 }
def k7c3 : Code := { maxStack := 2, maxLocals := 2, code := jdk_42_method_56_code, exceptionTable := #[], attributes := #[] }
def k7m3 : Method := { name := "charAt", desc := "(I)C", sig := { parameters := [.int], returnType := some .char }, accessFlags := 1, code := some k7c3 }
def k7c4 : Code := { maxStack := 4, maxLocals := 6, code := jdk_42_method_149_code, exceptionTable := #[], attributes := #[] }
def k7m4 : Method := { name := "<init>", desc := "([CIILjava/lang/Void;)V", sig := { parameters := [(.array .char), .int, .int, (.object "java/lang/Void")], returnType := none }, accessFlags := 2, code := some k7c4 }
def k7c5 : Code := { maxStack := 1, maxLocals := 1, code := jdk_42_method_152_code, exceptionTable := #[], attributes := #[] }
def k7m5 : Method := { name := "coder", desc := "()B", sig := { parameters := [], returnType := some .byte }, accessFlags := 0, code := some k7c5 }
def k7c6 : Code := { maxStack := 1, maxLocals := 1, code := jdk_42_method_154_code, exceptionTable := #[], attributes := #[] }
def k7m6 : Method := { name := "isLatin1", desc := "()Z", sig := { parameters := [], returnType := some .boolean }, accessFlags := 0, code := some k7c6 }
def k7c7 : Code := { maxStack := 3, maxLocals := 2, code := jdk_42_method_155_code, exceptionTable := #[], attributes := #[] }
def k7m7 : Method := { name := "checkIndex", desc := "(II)V", sig := { parameters := [.int, .int], returnType := none }, accessFlags := 8, code := some k7c7 }
/-- java/lang/String -/
def k7 : Class := { plain "java/lang/String" (some 0) with
  accessFlags := 49
  interfaces := #[2, 3, 4, 5, 6]
  cf := some (fileOf pool7 10 #[.nestMembers #[1103]] #[{ accessFlags := 1, nameIndex := 5, descriptorIndex := 6, attributes := #[] }, { accessFlags := 1, nameIndex := 5, descriptorIndex := 1010, attributes := #[] }, { accessFlags := 1, nameIndex := 507, descriptorIndex := 334, attributes := #[] }, { accessFlags := 1, nameIndex := 497, descriptorIndex := 427, attributes := #[] }, { accessFlags := 2, nameIndex := 5, descriptorIndex := 29, attributes := #[] }, { accessFlags := 0, nameIndex := 17, descriptorIndex := 337, attributes := #[] }, { accessFlags := 0, nameIndex := 494, descriptorIndex := 142, attributes := #[] }, { accessFlags := 8, nameIndex := 501, descriptorIndex := 391, attributes := #[] }] 49 2 #[1106, 1108, 575, 1110, 1112] #[{ accessFlags := 18, nameIndex := 13, descriptorIndex := 14, attributes := #[] }, { accessFlags := 18, nameIndex := 17, descriptorIndex := 18, attributes := #[] }, { accessFlags := 2, nameIndex := 21, descriptorIndex := 22, attributes := #[] }, { accessFlags := 2, nameIndex := 25, descriptorIndex := 26, attributes := #[] }, { accessFlags := 26, nameIndex := 1116, descriptorIndex := 1117, attributes := #[] }, { accessFlags := 24, nameIndex := 40, descriptorIndex := 26, attributes := #[] }, { accessFlags := 26, nameIndex := 1101, descriptorIndex := 1102, attributes := #[] }, { accessFlags := 26, nameIndex := 1121, descriptorIndex := 1122, attributes := #[] }, { accessFlags := 25, nameIndex := 599, descriptorIndex := 600, attributes := #[] }, { accessFlags := 24, nameIndex := 1125, descriptorIndex := 18, attributes := #[] }, { accessFlags := 24, nameIndex := 1127, descriptorIndex := 18, attributes := #[] }])
  fields := #[{ name := "value", type := (.array .byte), accessFlags := 18, slot := 0, constantValue := 0 }, { name := "coder", type := .byte, accessFlags := 18, slot := 1, constantValue := 0 }, { name := "hash", type := .int, accessFlags := 2, slot := 2, constantValue := 0 }, { name := "hashIsZero", type := .boolean, accessFlags := 2, slot := 3, constantValue := 0 }, { name := "serialVersionUID", type := .long, accessFlags := 26, slot := 0, constantValue := 0 }, { name := "COMPACT_STRINGS", type := .boolean, accessFlags := 24, slot := 1, constantValue := 0 }, { name := "serialPersistentFields", type := (.array (.object "java/io/ObjectStreamField")), accessFlags := 26, slot := 2, constantValue := 0 }, { name := "REPL", type := .char, accessFlags := 26, slot := 3, constantValue := 0 }, { name := "CASE_INSENSITIVE_ORDER", type := (.object "java/util/Comparator"), accessFlags := 25, slot := 4, constantValue := 0 }, { name := "LATIN1", type := .byte, accessFlags := 24, slot := 5, constantValue := 0 }, { name := "UTF16", type := .byte, accessFlags := 24, slot := 6, constantValue := 0 }]
  methods := #[k7m0, k7m1, k7m2, k7m3, k7m4, k7m5, k7m6, k7m7]
  instanceTypes := #[(.array .byte), .byte, .int, .boolean]
  staticTypes := #[.long, .boolean, (.array (.object "java/io/ObjectStreamField")), .char, (.object "java/util/Comparator"), .byte, .byte]
  resolved := Array.replicate 1451 none
  statics := some 0 }

def pool8 : Array CpInfo := pool [(3, .class_ 4), (0, u "java/lang/String"), (1, .class_ 8), (1, u "java/lang/Object"), (0, u "<init>"), (0, u "()V"), (0, .methodref 12 13), (0, .class_ 14), (0, .nameAndType 15 16), (0, u "java/lang/StringUTF16"), (0, u "newBytesLength"), (0, u "(I)I"), (3, .integer 1073741823), (23, .fieldref 12 45), (0, .nameAndType 46 47), (0, u "$assertionsDisabled"), (0, u "Z"), (0, .methodref 12 49), (0, .nameAndType 50 51), (0, u "length"), (0, u "([B)I"), (7, .fieldref 12 60), (0, .nameAndType 61 62), (0, u "HI_BYTE_SHIFT"), (0, u "I"), (0, .fieldref 12 64), (0, .nameAndType 65 62), (0, u "LO_BYTE_SHIFT"), (1, .methodref 12 68), (0, .nameAndType 69 70), (0, u "checkIndex"), (0, u "(I[B)V"), (0, .methodref 12 72), (0, .nameAndType 73 74), (0, u "getChar"), (0, u "([BI)C"), (32, .methodref 12 108), (0, .nameAndType 109 110), (0, u "newBytesFor"), (0, u "(I)[B"), (0, .methodref 12 112), (0, .nameAndType 113 114), (0, u "putChar"), (0, u "([BII)V"), (0, .methodref 12 116), (0, .nameAndType 117 118), (0, u "compress"), (0, u "([CI[BII)I"), (0, .methodref 12 120), (0, .nameAndType 121 122), (0, u "toBytes"), (0, u "([CII)[B"), (138, u "coderFromArrayLen"), (0, u "([BI)B"), (106, .class_ 371), (1, u "java/lang/StringUTF16$LinesSpliterator"), (20, u "charAt"), (21, .methodref 3 415), (0, .nameAndType 69 416), (0, u "(II)V"), (13, u "MAX_LENGTH"), (196, .class_ 628), (0, u "java/lang/StringUTF16$CodePointsSpliterator"), (0, .class_ 630), (0, u "java/lang/StringUTF16$CharsSpliterator")] 4

def k8m0 : Method := { name := "<init>", desc := "()V", sig := { parameters := [], returnType := none }, accessFlags := 0, code := none }
def k8c1 : Code := { maxStack := 1, maxLocals := 1, code := jdk_52_method_2_code, exceptionTable := #[], attributes := #[] }
def k8m1 : Method := { name := "newBytesFor", desc := "(I)[B", sig := { parameters := [.int], returnType := some (.array .byte) }, accessFlags := 9, code := some k8c1 }
def k8c2 : Code := { maxStack := 4, maxLocals := 1, code := jdk_52_method_3_code, exceptionTable := #[], attributes := #[] }
def k8m2 : Method := { name := "newBytesLength", desc := "(I)I", sig := { parameters := [.int], returnType := some .int }, accessFlags := 9, code := some k8c2 }
def k8c3 : Code := { maxStack := 4, maxLocals := 3, code := jdk_52_method_4_code, exceptionTable := #[], attributes := #[] }
def k8m3 : Method := { name := "putChar", desc := "([BII)V", sig := { parameters := [(.array .byte), .int, .int], returnType := none }, accessFlags := 8, code := some k8c3 }
def k8c4 : Code := { maxStack := 3, maxLocals := 2, code := jdk_52_method_5_code, exceptionTable := #[], attributes := #[] }
def k8m4 : Method := { name := "getChar", desc := "([BI)C", sig := { parameters := [(.array .byte), .int], returnType := some .char }, accessFlags := 8, code := some k8c4 }
def k8c5 : Code := { maxStack := 2, maxLocals := 1, code := jdk_52_method_6_code, exceptionTable := #[], attributes := #[] }
def k8m5 : Method := { name := "length", desc := "([B)I", sig := { parameters := [(.array .byte)], returnType := some .int }, accessFlags := 9, code := some k8c5 }
def k8c6 : Code := { maxStack := 4, maxLocals := 5, code := jdk_52_method_14_code, exceptionTable := #[], attributes := #[] }
def k8m6 : Method := { name := "toBytes", desc := "([CII)[B", sig := { parameters := [(.array .char), .int, .int], returnType := some (.array .byte) }, accessFlags := 9, code := some k8c6 }
def k8c7 : Code := { maxStack := 2, maxLocals := 2, code := jdk_52_method_15_code, exceptionTable := #[], attributes := #[] }
def k8m7 : Method := { name := "coderFromArrayLen", desc := "([BI)B", sig := { parameters := [(.array .byte), .int], returnType := some .byte }, accessFlags := 8, code := some k8c7 }
def k8c8 : Code := { maxStack := 5, maxLocals := 6, code := jdk_52_method_16_code, exceptionTable := #[], attributes := #[] }
def k8m8 : Method := { name := "compress", desc := "([CII)[B", sig := { parameters := [(.array .char), .int, .int], returnType := some (.array .byte) }, accessFlags := 9, code := some k8c8 }
def k8c9 : Code := { maxStack := 3, maxLocals := 7, code := jdk_52_method_21_code, exceptionTable := #[], attributes := #[] }
def k8m9 : Method := { name := "compress", desc := "([CI[BII)I", sig := { parameters := [(.array .char), .int, (.array .byte), .int, .int], returnType := some .int }, accessFlags := 9, code := some k8c9 }
def k8c10 : Code := { maxStack := 2, maxLocals := 2, code := jdk_52_method_83_code, exceptionTable := #[], attributes := #[] }
def k8m10 : Method := { name := "charAt", desc := "([BI)C", sig := { parameters := [(.array .byte), .int], returnType := some .char }, accessFlags := 9, code := some k8c10 }
def k8c11 : Code := { maxStack := 2, maxLocals := 2, code := jdk_52_method_91_code, exceptionTable := #[], attributes := #[] }
def k8m11 : Method := { name := "checkIndex", desc := "(I[B)V", sig := { parameters := [.int, (.array .byte)], returnType := none }, accessFlags := 9, code := some k8c11 }
/-- java/lang/StringUTF16 -/
def k8 : Class := { plain "java/lang/StringUTF16" (some 0) with
  accessFlags := 48
  interfaces := #[]
  cf := some (fileOf pool8 12 #[.nestMembers #[627, 629, 369]] #[{ accessFlags := 0, nameIndex := 9, descriptorIndex := 10, attributes := #[] }, { accessFlags := 9, nameIndex := 109, descriptorIndex := 110, attributes := #[] }, { accessFlags := 9, nameIndex := 15, descriptorIndex := 16, attributes := #[] }, { accessFlags := 8, nameIndex := 113, descriptorIndex := 114, attributes := #[] }, { accessFlags := 8, nameIndex := 73, descriptorIndex := 74, attributes := #[] }, { accessFlags := 9, nameIndex := 50, descriptorIndex := 51, attributes := #[] }, { accessFlags := 9, nameIndex := 121, descriptorIndex := 122, attributes := #[] }, { accessFlags := 8, nameIndex := 261, descriptorIndex := 262, attributes := #[] }, { accessFlags := 9, nameIndex := 117, descriptorIndex := 122, attributes := #[] }, { accessFlags := 9, nameIndex := 117, descriptorIndex := 118, attributes := #[] }, { accessFlags := 9, nameIndex := 392, descriptorIndex := 74, attributes := #[] }, { accessFlags := 9, nameIndex := 69, descriptorIndex := 70, attributes := #[] }] 48 6 #[] #[{ accessFlags := 26, nameIndex := 61, descriptorIndex := 62, attributes := #[] }, { accessFlags := 26, nameIndex := 65, descriptorIndex := 62, attributes := #[] }, { accessFlags := 24, nameIndex := 430, descriptorIndex := 62, attributes := #[] }, { accessFlags := 4120, nameIndex := 46, descriptorIndex := 47, attributes := #[] }])
  fields := #[{ name := "HI_BYTE_SHIFT", type := .int, accessFlags := 26, slot := 0, constantValue := 0 }, { name := "LO_BYTE_SHIFT", type := .int, accessFlags := 26, slot := 1, constantValue := 0 }, { name := "MAX_LENGTH", type := .int, accessFlags := 24, slot := 2, constantValue := 0 }, { name := "$assertionsDisabled", type := .boolean, accessFlags := 4120, slot := 3, constantValue := 0 }]
  methods := #[k8m0, k8m1, k8m2, k8m3, k8m4, k8m5, k8m6, k8m7, k8m8, k8m9, k8m10, k8m11]
  instanceTypes := #[]
  staticTypes := #[.int, .int, .int, .boolean]
  resolved := Array.replicate 635 none
  statics := some 1 }

def pool9 : Array CpInfo := pool [(2, .class_ 4), (1, u "java/lang/Object"), (6, .class_ 13), (1, u "com/example/commitlog/commitlog/ConsumeQueues"), (0, u "topics"), (0, u "Ljava/util/Map;"), (10, u "directory"), (0, u "Ljava/nio/file/Path;"), (2, u "writable"), (0, u "Z"), (2, u "TOPIC"), (0, u "Ljava/util/regex/Pattern;"), (15, .class_ 53), (1, u "java/lang/String"), (17, .methodref 51 72), (0, .nameAndType 73 74), (0, u "length"), (0, u "()I"), (0, .methodref 51 76), (0, .nameAndType 77 78), (0, u "charAt"), (0, u "(I)C"), (0, .long 10), (1, .long 48), (3, .long 2147483647), (6, .class_ 94), (1, u "com/example/commitlog/commitlog/ConsumeQueues$Topic"), (7, .class_ 104), (1, u "com/example/commitlog/commitlog/ConsumeQueues$Slot"), (7, u "Ljava/lang/String;"), (42, .class_ 156), (0, u "com/example/commitlog/commitlog/ConsumeQueues$CatchUp"), (65, .class_ 223), (0, u "com/example/commitlog/commitlog/ConsumeQueues$Repair"), (5, u "log"), (0, u "Lcom/example/commitlog/commitlog/MessageLog;"), (31, u "queueIdOf"), (0, u "(Ljava/lang/String;)I"), (51, .class_ 317), (1, u "com/example/commitlog/commitlog/ConsumeQueues$QueueVisitor"), (4, u "lastTopic"), (0, u "Lcom/example/commitlog/commitlog/ConsumeQueues$Topic;"), (46, u "opened"), (0, u "I"), (30, .class_ 403), (0, u "com/example/commitlog/commitlog/ConsumeQueues$1"), (110, u "DIRECTORY"), (1, u "INDEXED_IDS"), (41, .class_ 559), (0, u "com/example/commitlog/commitlog/ConsumeQueues$QueueWork")] 77

def k9c0 : Code := { maxStack := 4, maxLocals := 6, code := prog_6_method_4_code, exceptionTable := #[], attributes := #[] }
def k9m0 : Method := { name := "queueIdOf", desc := "(Ljava/lang/String;)I", sig := { parameters := [(.object "java/lang/String")], returnType := some .int }, accessFlags := 8, code := some k9c0 }
/-- com/example/commitlog/commitlog/ConsumeQueues -/
def k9 : Class := { plain "com/example/commitlog/commitlog/ConsumeQueues" (some 0) with
  accessFlags := 48
  interfaces := #[]
  cf := some (fileOf pool9 11 #[.nestMembers #[558, 315, 102, 222, 92, 155, 402]] #[{ accessFlags := 8, nameIndex := 262, descriptorIndex := 263, attributes := #[] }] 48 2 #[] #[{ accessFlags := 24, nameIndex := 514, descriptorIndex := 112, attributes := #[] }, { accessFlags := 26, nameIndex := 34, descriptorIndex := 35, attributes := #[] }, { accessFlags := 26, nameIndex := 516, descriptorIndex := 371, attributes := #[] }, { accessFlags := 18, nameIndex := 26, descriptorIndex := 27, attributes := #[] }, { accessFlags := 18, nameIndex := 30, descriptorIndex := 31, attributes := #[] }, { accessFlags := 18, nameIndex := 14, descriptorIndex := 15, attributes := #[] }, { accessFlags := 2, nameIndex := 322, descriptorIndex := 323, attributes := #[] }, { accessFlags := 2, nameIndex := 370, descriptorIndex := 371, attributes := #[] }, { accessFlags := 2, nameIndex := 229, descriptorIndex := 230, attributes := #[] }])
  fields := #[{ name := "DIRECTORY", type := (.object "java/lang/String"), accessFlags := 24, slot := 0, constantValue := 0 }, { name := "TOPIC", type := (.object "java/util/regex/Pattern"), accessFlags := 26, slot := 1, constantValue := 0 }, { name := "INDEXED_IDS", type := .int, accessFlags := 26, slot := 2, constantValue := 0 }, { name := "directory", type := (.object "java/nio/file/Path"), accessFlags := 18, slot := 0, constantValue := 0 }, { name := "writable", type := .boolean, accessFlags := 18, slot := 1, constantValue := 0 }, { name := "topics", type := (.object "java/util/Map"), accessFlags := 18, slot := 2, constantValue := 0 }, { name := "lastTopic", type := (.object "com/example/commitlog/commitlog/ConsumeQueues$Topic"), accessFlags := 2, slot := 3, constantValue := 0 }, { name := "opened", type := .int, accessFlags := 2, slot := 4, constantValue := 0 }, { name := "log", type := (.object "com/example/commitlog/commitlog/MessageLog"), accessFlags := 2, slot := 5, constantValue := 0 }]
  methods := #[k9m0]
  instanceTypes := #[(.object "java/nio/file/Path"), .boolean, (.object "java/util/Map"), (.object "com/example/commitlog/commitlog/ConsumeQueues$Topic"), .int, (.object "com/example/commitlog/commitlog/MessageLog")]
  staticTypes := #[(.object "java/lang/String"), (.object "java/util/regex/Pattern"), .int]
  resolved := Array.replicate 637 none
  statics := none }

def pool10 : Array CpInfo := pool [(1, .class_ 2), (0, u "java/lang/String"), (1, .class_ 6), (1, u "java/lang/Object"), (0, u "<init>"), (0, u "()V"), (0, .methodref 1 10), (0, .nameAndType 11 12), (0, u "checkIndex"), (0, u "(II)V"), (1, .class_ 16), (1, u "java/lang/StringLatin1"), (36, u "([BI)C"), (67, u "$assertionsDisabled"), (0, u "Z"), (98, .class_ 223), (1, u "java/lang/StringLatin1$LinesSpliterator"), (28, u "charAt"), (137, .class_ 391), (0, u "java/lang/StringLatin1$CharsSpliterator")] 3

def k10m0 : Method := { name := "<init>", desc := "()V", sig := { parameters := [], returnType := none }, accessFlags := 0, code := none }
def k10c1 : Code := { maxStack := 2, maxLocals := 2, code := jdk_43_method_2_code, exceptionTable := #[], attributes := #[] }
def k10m1 : Method := { name := "charAt", desc := "([BI)C", sig := { parameters := [(.array .byte), .int], returnType := some .char }, accessFlags := 9, code := some k10c1 }
/-- java/lang/StringLatin1 -/
def k10 : Class := { plain "java/lang/StringLatin1" (some 0) with
  accessFlags := 48
  interfaces := #[]
  cf := some (fileOf pool10 14 #[.nestMembers #[390, 221]] #[{ accessFlags := 0, nameIndex := 7, descriptorIndex := 8, attributes := #[] }, { accessFlags := 9, nameIndex := 252, descriptorIndex := 53, attributes := #[] }] 48 4 #[] #[{ accessFlags := 4120, nameIndex := 121, descriptorIndex := 122, attributes := #[] }])
  fields := #[{ name := "$assertionsDisabled", type := .boolean, accessFlags := 4120, slot := 0, constantValue := 0 }]
  methods := #[k10m0, k10m1]
  instanceTypes := #[]
  staticTypes := #[.boolean]
  resolved := Array.replicate 395 none
  statics := none }

def pool11 : Array CpInfo := pool [(2, .class_ 4), (1, u "java/lang/Object"), (0, u "<init>"), (0, u "()V"), (17, .class_ 26), (1, u "jdk/internal/util/Preconditions"), (6, u "checkIndex"), (21, .class_ 56), (0, u "jdk/internal/util/Preconditions$4"), (57, .class_ 115), (0, u "jdk/internal/util/Preconditions$1"), (7, u "SIOOBE_FORMATTER"), (0, u "Ljava/util/function/BiFunction;"), (0, .class_ 126), (0, u "jdk/internal/util/Preconditions$2"), (3, u "AIOOBE_FORMATTER"), (0, .class_ 132), (0, u "jdk/internal/util/Preconditions$3"), (3, u "IOOBE_FORMATTER"), (41, u "(IILjava/util/function/BiFunction;)I")] 15

def k11m0 : Method := { name := "<init>", desc := "()V", sig := { parameters := [], returnType := none }, accessFlags := 1, code := none }
def k11c1 : Code := { maxStack := 3, maxLocals := 3, code := jdk_41_method_11_code, exceptionTable := #[], attributes := #[] }
def k11m1 : Method := { name := "checkIndex", desc := "(IILjava/util/function/BiFunction;)I", sig := { parameters := [.int, .int, (.object "java/util/function/BiFunction")], returnType := some .int }, accessFlags := 9, code := some k11c1 }
/-- jdk/internal/util/Preconditions -/
def k11 : Class := { plain "jdk/internal/util/Preconditions" (some 0) with
  accessFlags := 33
  interfaces := #[]
  cf := some (fileOf pool11 24 #[.nestMembers #[55, 131, 125, 114]] #[{ accessFlags := 1, nameIndex := 5, descriptorIndex := 6, attributes := #[] }, { accessFlags := 9, nameIndex := 33, descriptorIndex := 178, attributes := #[] }] 33 2 #[] #[{ accessFlags := 25, nameIndex := 123, descriptorIndex := 124, attributes := #[] }, { accessFlags := 25, nameIndex := 130, descriptorIndex := 124, attributes := #[] }, { accessFlags := 25, nameIndex := 136, descriptorIndex := 124, attributes := #[] }])
  fields := #[{ name := "SIOOBE_FORMATTER", type := (.object "java/util/function/BiFunction"), accessFlags := 25, slot := 0, constantValue := 0 }, { name := "AIOOBE_FORMATTER", type := (.object "java/util/function/BiFunction"), accessFlags := 25, slot := 1, constantValue := 0 }, { name := "IOOBE_FORMATTER", type := (.object "java/util/function/BiFunction"), accessFlags := 25, slot := 2, constantValue := 0 }]
  methods := #[k11m0, k11m1]
  instanceTypes := #[]
  staticTypes := #[(.object "java/util/function/BiFunction"), (.object "java/util/function/BiFunction"), (.object "java/util/function/BiFunction")]
  resolved := Array.replicate 194 none
  statics := some 2 }

def pool12 : Array CpInfo := pool [(9, u "<init>"), (6, .class_ 18), (1, u "java/lang/Object"), (0, u "()V"), (1, .class_ 23), (1, u "jdk/internal/util/ArraysSupport"), (0, u "LOG2_ARRAY_LONG_INDEX_SCALE"), (0, u "I"), (2, u "U"), (0, u "Ljdk/internal/misc/Unsafe;"), (8, u "BIG_ENDIAN"), (0, u "Z"), (8, u "LOG2_BYTE_BIT_SIZE"), (4, u "LOG2_ARRAY_INT_INDEX_SCALE"), (54, u "JLA"), (0, u "Ljdk/internal/access/JavaLangAccess;"), (11, u "LOG2_ARRAY_BOOLEAN_INDEX_SCALE"), (9, u "LOG2_ARRAY_BYTE_INDEX_SCALE"), (5, u "LOG2_ARRAY_CHAR_INDEX_SCALE"), (5, u "LOG2_ARRAY_SHORT_INDEX_SCALE"), (18, u "LOG2_ARRAY_FLOAT_INDEX_SCALE"), (24, u "LOG2_ARRAY_DOUBLE_INDEX_SCALE"), (89, u "T_BOOLEAN"), (2, u "T_CHAR"), (1, u "T_FLOAT"), (1, u "T_DOUBLE"), (1, u "T_BYTE"), (1, u "T_SHORT"), (1, u "T_INT"), (1, u "T_LONG"), (1, u "SOFT_MAX_ARRAY_LENGTH")] 83

def k12m0 : Method := { name := "<init>", desc := "()V", sig := { parameters := [], returnType := none }, accessFlags := 2, code := none }
/-- jdk/internal/util/ArraysSupport -/
def k12 : Class := { plain "jdk/internal/util/ArraysSupport" (some 0) with
  accessFlags := 33
  interfaces := #[]
  cf := some (fileOf pool12 21 #[] #[{ accessFlags := 2, nameIndex := 9, descriptorIndex := 19, attributes := #[] }] 33 16 #[] #[{ accessFlags := 24, nameIndex := 28, descriptorIndex := 29, attributes := #[] }, { accessFlags := 26, nameIndex := 38, descriptorIndex := 39, attributes := #[] }, { accessFlags := 25, nameIndex := 121, descriptorIndex := 25, attributes := #[] }, { accessFlags := 25, nameIndex := 131, descriptorIndex := 25, attributes := #[] }, { accessFlags := 25, nameIndex := 137, descriptorIndex := 25, attributes := #[] }, { accessFlags := 25, nameIndex := 143, descriptorIndex := 25, attributes := #[] }, { accessFlags := 25, nameIndex := 53, descriptorIndex := 25, attributes := #[] }, { accessFlags := 25, nameIndex := 24, descriptorIndex := 25, attributes := #[] }, { accessFlags := 25, nameIndex := 162, descriptorIndex := 25, attributes := #[] }, { accessFlags := 25, nameIndex := 187, descriptorIndex := 25, attributes := #[] }, { accessFlags := 26, nameIndex := 48, descriptorIndex := 25, attributes := #[] }, { accessFlags := 25, nameIndex := 277, descriptorIndex := 25, attributes := #[] }, { accessFlags := 25, nameIndex := 280, descriptorIndex := 25, attributes := #[] }, { accessFlags := 25, nameIndex := 282, descriptorIndex := 25, attributes := #[] }, { accessFlags := 25, nameIndex := 284, descriptorIndex := 25, attributes := #[] }, { accessFlags := 25, nameIndex := 286, descriptorIndex := 25, attributes := #[] }, { accessFlags := 25, nameIndex := 288, descriptorIndex := 25, attributes := #[] }, { accessFlags := 25, nameIndex := 290, descriptorIndex := 25, attributes := #[] }, { accessFlags := 25, nameIndex := 292, descriptorIndex := 25, attributes := #[] }, { accessFlags := 26, nameIndex := 108, descriptorIndex := 109, attributes := #[] }, { accessFlags := 25, nameIndex := 294, descriptorIndex := 25, attributes := #[] }])
  fields := #[{ name := "U", type := (.object "jdk/internal/misc/Unsafe"), accessFlags := 24, slot := 0, constantValue := 0 }, { name := "BIG_ENDIAN", type := .boolean, accessFlags := 26, slot := 1, constantValue := 0 }, { name := "LOG2_ARRAY_BOOLEAN_INDEX_SCALE", type := .int, accessFlags := 25, slot := 2, constantValue := 0 }, { name := "LOG2_ARRAY_BYTE_INDEX_SCALE", type := .int, accessFlags := 25, slot := 3, constantValue := 0 }, { name := "LOG2_ARRAY_CHAR_INDEX_SCALE", type := .int, accessFlags := 25, slot := 4, constantValue := 0 }, { name := "LOG2_ARRAY_SHORT_INDEX_SCALE", type := .int, accessFlags := 25, slot := 5, constantValue := 0 }, { name := "LOG2_ARRAY_INT_INDEX_SCALE", type := .int, accessFlags := 25, slot := 6, constantValue := 0 }, { name := "LOG2_ARRAY_LONG_INDEX_SCALE", type := .int, accessFlags := 25, slot := 7, constantValue := 0 }, { name := "LOG2_ARRAY_FLOAT_INDEX_SCALE", type := .int, accessFlags := 25, slot := 8, constantValue := 0 }, { name := "LOG2_ARRAY_DOUBLE_INDEX_SCALE", type := .int, accessFlags := 25, slot := 9, constantValue := 0 }, { name := "LOG2_BYTE_BIT_SIZE", type := .int, accessFlags := 26, slot := 10, constantValue := 0 }, { name := "T_BOOLEAN", type := .int, accessFlags := 25, slot := 11, constantValue := 0 }, { name := "T_CHAR", type := .int, accessFlags := 25, slot := 12, constantValue := 0 }, { name := "T_FLOAT", type := .int, accessFlags := 25, slot := 13, constantValue := 0 }, { name := "T_DOUBLE", type := .int, accessFlags := 25, slot := 14, constantValue := 0 }, { name := "T_BYTE", type := .int, accessFlags := 25, slot := 15, constantValue := 0 }, { name := "T_SHORT", type := .int, accessFlags := 25, slot := 16, constantValue := 0 }, { name := "T_INT", type := .int, accessFlags := 25, slot := 17, constantValue := 0 }, { name := "T_LONG", type := .int, accessFlags := 25, slot := 18, constantValue := 0 }, { name := "JLA", type := (.object "jdk/internal/access/JavaLangAccess"), accessFlags := 26, slot := 19, constantValue := 0 }, { name := "SOFT_MAX_ARRAY_LENGTH", type := .int, accessFlags := 25, slot := 20, constantValue := 0 }]
  methods := #[k12m0]
  instanceTypes := #[]
  staticTypes := #[(.object "jdk/internal/misc/Unsafe"), .boolean, .int, .int, .int, .int, .int, .int, .int, .int, .int, .int, .int, .int, .int, .int, .int, .int, .int, (.object "jdk/internal/access/JavaLangAccess"), .int]
  resolved := Array.replicate 378 none
  statics := none }

def pool13 : Array CpInfo := pool [(1, u "java/lang/Cloneable"), (0, .class_ 1), (0, u "java/lang/Object"), (0, .class_ 3)] 3

/-- java/lang/Cloneable -/
def k13 : Class := { plain "java/lang/Cloneable" (some 0) with
  accessFlags := 1537
  interfaces := #[]
  cf := some (fileOf pool13 2 #[] #[] 1537 4 #[] #[])
  fields := #[]
  methods := #[]
  instanceTypes := #[]
  staticTypes := #[]
  resolved := Array.replicate 8 none
  statics := none }

/-- the primitive byte -/
def k14 : Class := { plain "byte" none with kind := .primitive 'B', accessFlags := 0x411 }
/-- [B -/
def k15 : Class := { plain "[B" (some 0) with kind := .array 14 .byte, interfaces := #[13, 2], accessFlags := 1041 }

/-- the primitive char -/
def k16 : Class := { plain "char" none with kind := .primitive 'C', accessFlags := 0x411 }
/-- [C -/
def k17 : Class := { plain "[C" (some 0) with kind := .array 16 .char, interfaces := #[13, 2], accessFlags := 1041 }

/-- the primitive int -/
def k18 : Class := { plain "int" none with kind := .primitive 'I', accessFlags := 0x411 }
/-- [I -/
def k19 : Class := { plain "[I" (some 0) with kind := .array 18 .int, interfaces := #[13, 2], accessFlags := 1041 }

/-- the primitive long -/
def k20 : Class := { plain "long" none with kind := .primitive 'J', accessFlags := 0x411 }
/-- [J -/
def k21 : Class := { plain "[J" (some 0) with kind := .array 20 .long, interfaces := #[13, 2], accessFlags := 1041 }

def heap : Heap := #[{ cls := 7, slots := #[.long 0, .int 1, .null, .int 0, .null, .int 0, .int 0], vm := .statics 7 },
  { cls := 8, slots := #[.int 0, .int 8, .int 0, .int 1], vm := .statics 8 },
  { cls := 11, slots := #[.null, .null, .null], vm := .statics 11 }]
def classes : Array Class := #[k0, k1, k2, k3, k4, k5, k6, k7, k8, k9, k10, k11, k12, k13, k14, k15, k16, k17, k18, k19, k20, k21]
def interned : List (Array UInt16 × Addr) := []
def slotsUsed : Nat := 14
def theMethod : MethodId := ⟨1, 1⟩
def args0 : Array Value := #[.long 5, .int 3, .int 7, .int 1, .int 2]
def aboutOver (below : List Frame) : State where
  vm := { classes := classes, interned := interned.toArray }
  heap := heap
  slotsUsed := slotsUsed
  threads := #[{ frames := .invoking theMethod args0 :: below }]
def below0 : List Frame := [.native { method := ⟨0, 0⟩, args := #[] }]
def about1 : State := aboutOver below0
def p0 : Program := .bare "" "" ""
def e0 : Env := launch0.env 0 0 0
theorem w_frames : about1.frames = Frame.invoking theMethod args0 :: below0 := rfl
set_option maxRecDepth 65536 in
theorem w_args : argsFit about1.vm theMethod args0 = true := by decide +kernel
set_option maxRecDepth 65536 in
theorem w_heap : heapFits about1 = true := by decide +kernel
set_option maxRecDepth 65536 in
theorem w_runnable : about1.curStatus? = some .runnable := by decide +kernel
set_option maxRecDepth 65536 in
theorem w_alone : about1.alone = true := by decide +kernel
set_option maxRecDepth 65536 in
theorem w_named : about1.methodNamed? x = some theMethod := by decide +kernel
set_option maxRecDepth 65536 in
theorem w_hears : about1.hears theMethod below0 = true := by decide +kernel
set_option maxRecDepth 65536 in
theorem w_ripe : about1.ripe theMethod args0 below0 = true := by decide +kernel
theorem w_running : about1.status = .running := rfl
set_option maxRecDepth 65536 in
theorem w_room : about1.hasRoom e0.platform room_1 = true :=
  launch0.hasRoom_least _ room_1 (by decide +kernel) (by decide +kernel) (by decide +kernel) (by decide +kernel) (by decide +kernel) (by decide +kernel)
theorem allAtoms_all (ts : List Jvm.Cond) (a : Array Jvm.Value) (st : Jvm.State) : (allAtoms ts).before a st = ts.all (fun c => c.before a st) := by
  induction ts with
  | nil => rfl
  | cons c t ih =>
    show (Jvm.Cond.and c (allAtoms t)).before a st = _
    rw [Jvm.Cond.before_and, ih, List.all_cons]
def words1 : List Jvm.Cond := Jvm.Cond.code x code maxLocals ret :: tables_1
/-- a 'code' word, met by the world's own term for the bytes: nothing is compared byte by byte -/
theorem code_word {y : MethodName} {bytes : ByteArray} {mx : Nat} {rt : Option FieldType} {a : Array Value} {s : State} {m : MethodId} {meth : Method} {c : Code} (h1 : s.methodNamed? y = some m) (h2 : s.vm.method? m = some meth) (h3 : meth.code = some c) (h4 : c.code = bytes)
    (h5 : (c.maxLocals == mx && c.exceptionTable.isEmpty && decide (c.maxStack ≤ mostOperands) && decide (meth.sig.returnType = rt) && !meth.locks && decide (parseMethodDescriptor y.desc = some meth.sig)) = true) : (Jvm.Cond.code y bytes mx rt).before a s = true := by
  simp only [Bool.and_eq_true, beq_iff_eq, Bool.not_eq_true', decide_eq_true_eq] at h5
  obtain ⟨⟨⟨⟨⟨g1, g2⟩, g3⟩, g4⟩, g5⟩, g6⟩ := h5
  simp [Cond.before, Cond.holds, Cond.value, h1, h2, h3, h4, g1, g2, g3, g4, g5, g6]
def isCode : Jvm.Cond → Bool
  | .code _ _ _ _ => true
  | _ => false
theorem all_split {L : List Jvm.Cond} {P : Jvm.Cond → Bool} (h1 : L.all (fun c => isCode c || P c) = true) (h2 : ∀ c ∈ L.filter isCode, P c = true) : L.all P = true := by
  refine List.all_eq_true.mpr fun c hc => ?_
  have h := List.all_eq_true.mp h1 c hc
  rcases Bool.eq_false_or_eq_true (isCode c) with hi | hi
  · exact h2 c (List.mem_filter.mpr ⟨hc, hi⟩)
  · simpa [hi] using h
set_option maxRecDepth 65536 in
theorem w_c0 : (Jvm.Cond.code x code maxLocals ret).before args0 about1 = true := code_word (m := ⟨1, 1⟩) (meth := k1m1) (c := k1c1) (by decide +kernel) rfl rfl rfl (by decide +kernel)
set_option maxRecDepth 65536 in
theorem w_c1 : (Jvm.Cond.code ({ cls := "com/example/commitlog/commitlog/ConsumeQueuesQueueIdOfPinLaw", name := "digit", desc := "(JJ)C" } : Jvm.MethodName) method_3_code (4 : Nat) (Option.some Jvm.ClassFile.FieldType.char)).before args0 about1 = true := code_word (m := ⟨1, 2⟩) (meth := k1m2) (c := k1c2) (by decide +kernel) rfl rfl rfl (by decide +kernel)
set_option maxRecDepth 65536 in
theorem w_c2 : (Jvm.Cond.code ({ cls := "com/example/commitlog/commitlog/ConsumeQueuesQueueIdOfPinLaw", name := "make", desc := "([CI)Ljava/lang/String;" } : Jvm.MethodName) method_4_code (2 : Nat) (Option.some (Jvm.ClassFile.FieldType.object "java/lang/String"))).before args0 about1 = true := code_word (m := ⟨1, 3⟩) (meth := k1m3) (c := k1c3) (by decide +kernel) rfl rfl rfl (by decide +kernel)
set_option maxRecDepth 65536 in
theorem w_c3 : (Jvm.Cond.code ({ cls := "java/lang/String", name := "<init>", desc := "([C)V" } : Jvm.MethodName) jdk_42_method_3_code (2 : Nat) (Option.none : Option Jvm.ClassFile.FieldType)).before args0 about1 = true := code_word (m := ⟨7, 1⟩) (meth := k7m1) (c := k7c1) (by decide +kernel) rfl rfl rfl (by decide +kernel)
set_option maxRecDepth 65536 in
theorem w_c4 : (Jvm.Cond.code ({ cls := "java/lang/String", name := "<init>", desc := "([CIILjava/lang/Void;)V" } : Jvm.MethodName) jdk_42_method_149_code (6 : Nat) (Option.none : Option Jvm.ClassFile.FieldType)).before args0 about1 = true := code_word (m := ⟨7, 4⟩) (meth := k7m4) (c := k7c4) (by decide +kernel) rfl rfl rfl (by decide +kernel)
set_option maxRecDepth 65536 in
theorem w_c5 : (Jvm.Cond.code ({ cls := "java/lang/Object", name := "<init>", desc := "()V" } : Jvm.MethodName) object_method_1_code (1 : Nat) (Option.none : Option Jvm.ClassFile.FieldType)).before args0 about1 = true := code_word (m := ⟨0, 0⟩) (meth := k0m0) (c := k0c0) (by decide +kernel) rfl rfl rfl (by decide +kernel)
set_option maxRecDepth 65536 in
theorem w_c6 : (Jvm.Cond.code ({ cls := "java/lang/StringUTF16", name := "compress", desc := "([CII)[B" } : Jvm.MethodName) jdk_52_method_16_code (6 : Nat) (Option.some (Jvm.ClassFile.FieldType.array Jvm.ClassFile.FieldType.byte))).before args0 about1 = true := code_word (m := ⟨8, 8⟩) (meth := k8m8) (c := k8c8) (by decide +kernel) rfl rfl rfl (by decide +kernel)
set_option maxRecDepth 65536 in
theorem w_c7 : (Jvm.Cond.code ({ cls := "java/lang/StringUTF16", name := "compress", desc := "([CI[BII)I" } : Jvm.MethodName) jdk_52_method_21_code (7 : Nat) (Option.some Jvm.ClassFile.FieldType.int)).before args0 about1 = true := code_word (m := ⟨8, 9⟩) (meth := k8m9) (c := k8c9) (by decide +kernel) rfl rfl rfl (by decide +kernel)
set_option maxRecDepth 65536 in
theorem w_c8 : (Jvm.Cond.code ({ cls := "java/lang/StringUTF16", name := "coderFromArrayLen", desc := "([BI)B" } : Jvm.MethodName) jdk_52_method_15_code (2 : Nat) (Option.some Jvm.ClassFile.FieldType.byte)).before args0 about1 = true := code_word (m := ⟨8, 7⟩) (meth := k8m7) (c := k8c7) (by decide +kernel) rfl rfl rfl (by decide +kernel)
set_option maxRecDepth 65536 in
theorem w_c9 : (Jvm.Cond.code ({ cls := "com/example/commitlog/commitlog/ConsumeQueues", name := "queueIdOf", desc := "(Ljava/lang/String;)I" } : Jvm.MethodName) prog_6_method_4_code (6 : Nat) (Option.some Jvm.ClassFile.FieldType.int)).before args0 about1 = true := code_word (m := ⟨9, 0⟩) (meth := k9m0) (c := k9c0) (by decide +kernel) rfl rfl rfl (by decide +kernel)
set_option maxRecDepth 65536 in
theorem w_c10 : (Jvm.Cond.code ({ cls := "java/lang/String", name := "length", desc := "()I" } : Jvm.MethodName) jdk_42_method_54_code (1 : Nat) (Option.some Jvm.ClassFile.FieldType.int)).before args0 about1 = true := code_word (m := ⟨7, 2⟩) (meth := k7m2) (c := k7c2) (by decide +kernel) rfl rfl rfl (by decide +kernel)
set_option maxRecDepth 65536 in
theorem w_c11 : (Jvm.Cond.code ({ cls := "java/lang/String", name := "coder", desc := "()B" } : Jvm.MethodName) jdk_42_method_152_code (1 : Nat) (Option.some Jvm.ClassFile.FieldType.byte)).before args0 about1 = true := code_word (m := ⟨7, 5⟩) (meth := k7m5) (c := k7c5) (by decide +kernel) rfl rfl rfl (by decide +kernel)
set_option maxRecDepth 65536 in
theorem w_c12 : (Jvm.Cond.code ({ cls := "java/lang/String", name := "charAt", desc := "(I)C" } : Jvm.MethodName) jdk_42_method_56_code (2 : Nat) (Option.some Jvm.ClassFile.FieldType.char)).before args0 about1 = true := code_word (m := ⟨7, 3⟩) (meth := k7m3) (c := k7c3) (by decide +kernel) rfl rfl rfl (by decide +kernel)
set_option maxRecDepth 65536 in
theorem w_c13 : (Jvm.Cond.code ({ cls := "java/lang/String", name := "isLatin1", desc := "()Z" } : Jvm.MethodName) jdk_42_method_154_code (1 : Nat) (Option.some Jvm.ClassFile.FieldType.boolean)).before args0 about1 = true := code_word (m := ⟨7, 6⟩) (meth := k7m6) (c := k7c6) (by decide +kernel) rfl rfl rfl (by decide +kernel)
set_option maxRecDepth 65536 in
theorem w_c14 : (Jvm.Cond.code ({ cls := "java/lang/StringLatin1", name := "charAt", desc := "([BI)C" } : Jvm.MethodName) jdk_43_method_2_code (2 : Nat) (Option.some Jvm.ClassFile.FieldType.char)).before args0 about1 = true := code_word (m := ⟨10, 1⟩) (meth := k10m1) (c := k10c1) (by decide +kernel) rfl rfl rfl (by decide +kernel)
set_option maxRecDepth 65536 in
theorem w_c15 : (Jvm.Cond.code ({ cls := "java/lang/String", name := "checkIndex", desc := "(II)V" } : Jvm.MethodName) jdk_42_method_155_code (2 : Nat) (Option.none : Option Jvm.ClassFile.FieldType)).before args0 about1 = true := code_word (m := ⟨7, 7⟩) (meth := k7m7) (c := k7c7) (by decide +kernel) rfl rfl rfl (by decide +kernel)
set_option maxRecDepth 65536 in
theorem w_c16 : (Jvm.Cond.code ({ cls := "jdk/internal/util/Preconditions", name := "checkIndex", desc := "(IILjava/util/function/BiFunction;)I" } : Jvm.MethodName) jdk_41_method_11_code (3 : Nat) (Option.some Jvm.ClassFile.FieldType.int)).before args0 about1 = true := code_word (m := ⟨11, 1⟩) (meth := k11m1) (c := k11c1) (by decide +kernel) rfl rfl rfl (by decide +kernel)
set_option maxRecDepth 65536 in
theorem w_c17 : (Jvm.Cond.code ({ cls := "java/lang/StringUTF16", name := "toBytes", desc := "([CII)[B" } : Jvm.MethodName) jdk_52_method_14_code (5 : Nat) (Option.some (Jvm.ClassFile.FieldType.array Jvm.ClassFile.FieldType.byte))).before args0 about1 = true := code_word (m := ⟨8, 6⟩) (meth := k8m6) (c := k8c6) (by decide +kernel) rfl rfl rfl (by decide +kernel)
set_option maxRecDepth 65536 in
theorem w_c18 : (Jvm.Cond.code ({ cls := "java/lang/StringUTF16", name := "newBytesFor", desc := "(I)[B" } : Jvm.MethodName) jdk_52_method_2_code (1 : Nat) (Option.some (Jvm.ClassFile.FieldType.array Jvm.ClassFile.FieldType.byte))).before args0 about1 = true := code_word (m := ⟨8, 1⟩) (meth := k8m1) (c := k8c1) (by decide +kernel) rfl rfl rfl (by decide +kernel)
set_option maxRecDepth 65536 in
theorem w_c19 : (Jvm.Cond.code ({ cls := "java/lang/StringUTF16", name := "newBytesLength", desc := "(I)I" } : Jvm.MethodName) jdk_52_method_3_code (1 : Nat) (Option.some Jvm.ClassFile.FieldType.int)).before args0 about1 = true := code_word (m := ⟨8, 2⟩) (meth := k8m2) (c := k8c2) (by decide +kernel) rfl rfl rfl (by decide +kernel)
set_option maxRecDepth 65536 in
theorem w_c20 : (Jvm.Cond.code ({ cls := "java/lang/StringUTF16", name := "putChar", desc := "([BII)V" } : Jvm.MethodName) jdk_52_method_4_code (3 : Nat) (Option.none : Option Jvm.ClassFile.FieldType)).before args0 about1 = true := code_word (m := ⟨8, 3⟩) (meth := k8m3) (c := k8c3) (by decide +kernel) rfl rfl rfl (by decide +kernel)
set_option maxRecDepth 65536 in
theorem w_c21 : (Jvm.Cond.code ({ cls := "java/lang/StringUTF16", name := "getChar", desc := "([BI)C" } : Jvm.MethodName) jdk_52_method_5_code (2 : Nat) (Option.some Jvm.ClassFile.FieldType.char)).before args0 about1 = true := code_word (m := ⟨8, 4⟩) (meth := k8m4) (c := k8c4) (by decide +kernel) rfl rfl rfl (by decide +kernel)
set_option maxRecDepth 65536 in
theorem w_c22 : (Jvm.Cond.code ({ cls := "java/lang/StringUTF16", name := "charAt", desc := "([BI)C" } : Jvm.MethodName) jdk_52_method_83_code (2 : Nat) (Option.some Jvm.ClassFile.FieldType.char)).before args0 about1 = true := code_word (m := ⟨8, 10⟩) (meth := k8m10) (c := k8c10) (by decide +kernel) rfl rfl rfl (by decide +kernel)
set_option maxRecDepth 65536 in
theorem w_c23 : (Jvm.Cond.code ({ cls := "java/lang/StringUTF16", name := "checkIndex", desc := "(I[B)V" } : Jvm.MethodName) jdk_52_method_91_code (2 : Nat) (Option.none : Option Jvm.ClassFile.FieldType)).before args0 about1 = true := code_word (m := ⟨8, 11⟩) (meth := k8m11) (c := k8c11) (by decide +kernel) rfl rfl rfl (by decide +kernel)
set_option maxRecDepth 65536 in
theorem w_c24 : (Jvm.Cond.code ({ cls := "java/lang/StringUTF16", name := "length", desc := "([B)I" } : Jvm.MethodName) jdk_52_method_6_code (1 : Nat) (Option.some Jvm.ClassFile.FieldType.int)).before args0 about1 = true := code_word (m := ⟨8, 5⟩) (meth := k8m5) (c := k8c5) (by decide +kernel) rfl rfl rfl (by decide +kernel)
def codes1 : List Jvm.Cond := [Jvm.Cond.code x code maxLocals ret, Jvm.Cond.code ({ cls := "com/example/commitlog/commitlog/ConsumeQueuesQueueIdOfPinLaw", name := "digit", desc := "(JJ)C" } : Jvm.MethodName) method_3_code (4 : Nat) (Option.some Jvm.ClassFile.FieldType.char), Jvm.Cond.code ({ cls := "com/example/commitlog/commitlog/ConsumeQueuesQueueIdOfPinLaw", name := "make", desc := "([CI)Ljava/lang/String;" } : Jvm.MethodName) method_4_code (2 : Nat) (Option.some (Jvm.ClassFile.FieldType.object "java/lang/String")), Jvm.Cond.code ({ cls := "java/lang/String", name := "<init>", desc := "([C)V" } : Jvm.MethodName) jdk_42_method_3_code (2 : Nat) (Option.none : Option Jvm.ClassFile.FieldType), Jvm.Cond.code ({ cls := "java/lang/String", name := "<init>", desc := "([CIILjava/lang/Void;)V" } : Jvm.MethodName) jdk_42_method_149_code (6 : Nat) (Option.none : Option Jvm.ClassFile.FieldType), Jvm.Cond.code ({ cls := "java/lang/Object", name := "<init>", desc := "()V" } : Jvm.MethodName) object_method_1_code (1 : Nat) (Option.none : Option Jvm.ClassFile.FieldType), Jvm.Cond.code ({ cls := "java/lang/StringUTF16", name := "compress", desc := "([CII)[B" } : Jvm.MethodName) jdk_52_method_16_code (6 : Nat) (Option.some (Jvm.ClassFile.FieldType.array Jvm.ClassFile.FieldType.byte)), Jvm.Cond.code ({ cls := "java/lang/StringUTF16", name := "compress", desc := "([CI[BII)I" } : Jvm.MethodName) jdk_52_method_21_code (7 : Nat) (Option.some Jvm.ClassFile.FieldType.int), Jvm.Cond.code ({ cls := "java/lang/StringUTF16", name := "coderFromArrayLen", desc := "([BI)B" } : Jvm.MethodName) jdk_52_method_15_code (2 : Nat) (Option.some Jvm.ClassFile.FieldType.byte), Jvm.Cond.code ({ cls := "com/example/commitlog/commitlog/ConsumeQueues", name := "queueIdOf", desc := "(Ljava/lang/String;)I" } : Jvm.MethodName) prog_6_method_4_code (6 : Nat) (Option.some Jvm.ClassFile.FieldType.int), Jvm.Cond.code ({ cls := "java/lang/String", name := "length", desc := "()I" } : Jvm.MethodName) jdk_42_method_54_code (1 : Nat) (Option.some Jvm.ClassFile.FieldType.int), Jvm.Cond.code ({ cls := "java/lang/String", name := "coder", desc := "()B" } : Jvm.MethodName) jdk_42_method_152_code (1 : Nat) (Option.some Jvm.ClassFile.FieldType.byte), Jvm.Cond.code ({ cls := "java/lang/String", name := "charAt", desc := "(I)C" } : Jvm.MethodName) jdk_42_method_56_code (2 : Nat) (Option.some Jvm.ClassFile.FieldType.char), Jvm.Cond.code ({ cls := "java/lang/String", name := "isLatin1", desc := "()Z" } : Jvm.MethodName) jdk_42_method_154_code (1 : Nat) (Option.some Jvm.ClassFile.FieldType.boolean), Jvm.Cond.code ({ cls := "java/lang/StringLatin1", name := "charAt", desc := "([BI)C" } : Jvm.MethodName) jdk_43_method_2_code (2 : Nat) (Option.some Jvm.ClassFile.FieldType.char), Jvm.Cond.code ({ cls := "java/lang/String", name := "checkIndex", desc := "(II)V" } : Jvm.MethodName) jdk_42_method_155_code (2 : Nat) (Option.none : Option Jvm.ClassFile.FieldType), Jvm.Cond.code ({ cls := "jdk/internal/util/Preconditions", name := "checkIndex", desc := "(IILjava/util/function/BiFunction;)I" } : Jvm.MethodName) jdk_41_method_11_code (3 : Nat) (Option.some Jvm.ClassFile.FieldType.int), Jvm.Cond.code ({ cls := "java/lang/StringUTF16", name := "toBytes", desc := "([CII)[B" } : Jvm.MethodName) jdk_52_method_14_code (5 : Nat) (Option.some (Jvm.ClassFile.FieldType.array Jvm.ClassFile.FieldType.byte)), Jvm.Cond.code ({ cls := "java/lang/StringUTF16", name := "newBytesFor", desc := "(I)[B" } : Jvm.MethodName) jdk_52_method_2_code (1 : Nat) (Option.some (Jvm.ClassFile.FieldType.array Jvm.ClassFile.FieldType.byte)), Jvm.Cond.code ({ cls := "java/lang/StringUTF16", name := "newBytesLength", desc := "(I)I" } : Jvm.MethodName) jdk_52_method_3_code (1 : Nat) (Option.some Jvm.ClassFile.FieldType.int), Jvm.Cond.code ({ cls := "java/lang/StringUTF16", name := "putChar", desc := "([BII)V" } : Jvm.MethodName) jdk_52_method_4_code (3 : Nat) (Option.none : Option Jvm.ClassFile.FieldType), Jvm.Cond.code ({ cls := "java/lang/StringUTF16", name := "getChar", desc := "([BI)C" } : Jvm.MethodName) jdk_52_method_5_code (2 : Nat) (Option.some Jvm.ClassFile.FieldType.char), Jvm.Cond.code ({ cls := "java/lang/StringUTF16", name := "charAt", desc := "([BI)C" } : Jvm.MethodName) jdk_52_method_83_code (2 : Nat) (Option.some Jvm.ClassFile.FieldType.char), Jvm.Cond.code ({ cls := "java/lang/StringUTF16", name := "checkIndex", desc := "(I[B)V" } : Jvm.MethodName) jdk_52_method_91_code (2 : Nat) (Option.none : Option Jvm.ClassFile.FieldType), Jvm.Cond.code ({ cls := "java/lang/StringUTF16", name := "length", desc := "([B)I" } : Jvm.MethodName) jdk_52_method_6_code (1 : Nat) (Option.some Jvm.ClassFile.FieldType.int)]
set_option maxRecDepth 65536 in
theorem codes_eq : words1.filter isCode = codes1 := rfl
theorem w_codes : ∀ c ∈ words1.filter isCode, c.before args0 about1 = true := by
  rw [codes_eq]
  intro c hc
  simp only [codes1, List.mem_cons, List.not_mem_nil, or_false] at hc
  rcases hc with rfl | rfl | rfl | rfl | rfl | rfl | rfl | rfl | rfl | rfl | rfl | rfl | rfl | rfl | rfl | rfl | rfl | rfl | rfl | rfl | rfl | rfl | rfl | rfl | rfl
  · exact w_c0
  · exact w_c1
  · exact w_c2
  · exact w_c3
  · exact w_c4
  · exact w_c5
  · exact w_c6
  · exact w_c7
  · exact w_c8
  · exact w_c9
  · exact w_c10
  · exact w_c11
  · exact w_c12
  · exact w_c13
  · exact w_c14
  · exact w_c15
  · exact w_c16
  · exact w_c17
  · exact w_c18
  · exact w_c19
  · exact w_c20
  · exact w_c21
  · exact w_c22
  · exact w_c23
  · exact w_c24
set_option maxRecDepth 65536 in
theorem w_t1 : (words1.take 24).all (fun c => isCode c || c.before args0 about1) = true := by decide +kernel
set_option maxRecDepth 65536 in
theorem w_t2 : ((words1.drop 24).take 24).all (fun c => isCode c || c.before args0 about1) = true := by decide +kernel
set_option maxRecDepth 65536 in
theorem w_t3 : (((words1.drop 24).drop 24).take 24).all (fun c => isCode c || c.before args0 about1) = true := by decide +kernel
set_option maxRecDepth 65536 in
theorem w_t4 : ((((words1.drop 24).drop 24).drop 24).take 24).all (fun c => isCode c || c.before args0 about1) = true := by decide +kernel
set_option maxRecDepth 65536 in
theorem w_t5 : (((((words1.drop 24).drop 24).drop 24).drop 24).take 24).all (fun c => isCode c || c.before args0 about1) = true := by decide +kernel
set_option maxRecDepth 65536 in
theorem w_t6 : (((((words1.drop 24).drop 24).drop 24).drop 24).drop 24).all (fun c => isCode c || c.before args0 about1) = true := by decide +kernel
theorem w_tables : (allAtoms (Jvm.Cond.code x code maxLocals ret :: tables_1)).before args0 about1 = true := by
  rw [allAtoms_all]
  show words1.all (fun c => c.before args0 about1) = true
  refine all_split ?_ w_codes
  rw [← List.take_append_drop 24 words1, List.all_append, w_t1, ← List.take_append_drop 24 (words1.drop 24), List.all_append, w_t2, ← List.take_append_drop 24 ((words1.drop 24).drop 24), List.all_append, w_t3, ← List.take_append_drop 24 (((words1.drop 24).drop 24).drop 24), List.all_append, w_t4, ← List.take_append_drop 24 ((((words1.drop 24).drop 24).drop 24).drop 24), List.all_append, w_t5, w_t6]
  rfl
set_option maxRecDepth 65536 in
theorem w_rest : rest_1_c.before args0 about1 = true := by decide +kernel
set_option maxRecDepth 65536 in
theorem w_case : (Jvm.Cond.and given_1 narrow_1).before args0 about1 = true := by decide +kernel
set_option maxRecDepth 65536 in
theorem w_consts : constsHeld consts_1 about1 := Jvm.Lit.constsHeldB_iff.mp (by decide +kernel)
theorem w_applies : (headSpec (Jvm.Cond.code x code maxLocals ret :: tables_1) room_1).applies x e0.platform about1 = true :=
  (Spec.applies_iff w_frames).mpr ⟨w_running, w_runnable, w_alone, w_named, w_hears, w_ripe, w_room, w_tables⟩
theorem atStart : AtStart classFile x code maxLocals ret World_1 tables_1 room_1 Calls_1 rest_1 Pre_1 launch0 p0 e0 about1 theMethod args0 below0 :=
  ⟨lists_1, trivial, launch0.admits_env _ _ _, launch0.least_env, fairChoices_fair.cas, fairChoices_fair.clock, w_frames, w_args, w_heap, w_applies, ⟨w_consts, trivial⟩, w_rest, w_case⟩
end start1
theorem witness_1 : WitnessClaimed_1 := ⟨start1.p0, start1.e0, start1.about1, start1.theMethod, start1.args0, start1.below0, start1.atStart⟩
end Jvm.Pilot.@@N@@
