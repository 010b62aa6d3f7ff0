import JvmDerived
import JvmDerived.Pilot.@@N@@Statement
import JvmDerived.Pilot.@@N@@Code
set_option linter.unusedVariables false
set_option linter.unusedSimpArgs false
/- laws to paste: Road.backV, Road.lenW, Road.chN, Road.empW, Road.codOf (cut by pick.py; bodies as the Statement names them) -/
namespace Jvm.Pilot.@@N@@
namespace StrChars
open Jvm Sem ClassFile Op Lib Jvm.Stand Jvm.Free.XT Jvm.Free.ALB Jvm.Free.JM Jvm.Free
open Jvm.Lib.Cold (StaticIs)
/-- a char array whose places are chars -/
def Ch (a : Addr) (A : Cell) (U : State) : Prop := Arr .char a A U ∧ Typed .char A
theorem Ch.mv {a : Addr} {A : Cell} {U U' : State} (h : Ch a A U) (hal : U.vm.Alike U'.vm) (hh : U'.heap = U.heap) : Ch a A U' := ⟨h.1.mv hal hh, h.2⟩
theorem Ch.keep {a : Addr} {A : Cell} {U U' : State} (h : Ch a A U) (hal : U.vm.Alike U'.vm) (hk : U'.heap[a]? = some A) : Ch a A U' := ⟨h.1.keep hal hk, h.2⟩
/-- what place i of a char[]'s cell holds -/
def cv (A : Cell) (i : Nat) : Int32 := match A.slots[i]? with | some (.int x) => x | _ => 0
theorem Ch.get {a : Addr} {A : Cell} {U : State} (h : Ch a A U) {i : Nat} (hi : i < A.slots.size) : A.slots[i]? = some (.int (cv A i)) := by
  have e := Array.getElem?_eq_getElem hi
  have f := h.2 i _ e
  unfold cv; rw [e]
  generalize A.slots[i] = v at f
  cases v <;> simp [fits] at f ⊢
/-- the byte that i2b leaves of a char -/
def lo8 (x : Int32) : Int32 := x.toInt8.toInt32
theorem fits_lo8 (y : Int32) : fits .byte (.int (lo8 y)) = true := by
  have h1 := y.toInt8.le_toInt
  have h2 := y.toInt8.toInt_lt
  simp only [lo8, fits, Bool.and_eq_true, decide_eq_true_eq, Int32.le_iff_toInt_le, Int8.toInt_toInt32, show (-128 : Int32).toInt = -128 from by decide, show (127 : Int32).toInt = 127 from by decide]
  omega
/-- A' is A but that each place j of lo .. hi - 1 holds f j -/
def Laid (A A' : Cell) (lo hi : Nat) (f : Nat → Value) : Prop := A'.cls = A.cls ∧ A'.vm = A.vm ∧ A'.slots.size = A.slots.size ∧ ∀ i, A'.slots[i]? = if lo ≤ i ∧ i < hi then some (f i) else A.slots[i]?
theorem Laid.zero (A : Cell) (lo : Nat) (f : Nat → Value) : Laid A A lo (lo + 0) f := ⟨rfl, rfl, rfl, fun i => by rw [if_neg (by omega)]⟩
theorem Laid.step {A Ak : Cell} {lo k : Nat} {f : Nat → Value} {v : Value} (h : Laid A Ak lo k f) (hlo : lo ≤ k) (hk : k < Ak.slots.size) (hv : v = f k) : Laid A (Ak.setSlot k v) lo (k + 1) f := by
  refine ⟨h.1, h.2.1, by simpa [Cell.setSlot] using h.2.2.1, fun i => ?_⟩
  by_cases e : k = i
  · subst e; rw [Cell.slots_setSlot_self v hk, if_pos (by omega), hv]
  · rw [Cell.slots_setSlot_ne v e, h.2.2.2 i]
    by_cases q : lo ≤ i ∧ i < k
    · rw [if_pos q, if_pos (by omega)]
    · rw [if_neg q, if_neg (by omega)]
def U16 : String := "java/lang/StringUTF16"
namespace Cmp5
def yN : MethodName := ⟨"java/lang/StringUTF16", "compress", "([CI[BII)I"⟩
abbrev yB : ByteArray := jdk_52_method_21_code
theorem d0 : decode yB 0 = .ok (.iconst 0, 1) := by decide +kernel
theorem d1 : decode yB 1 = .ok (.istore 5, 2) := by decide +kernel
theorem d3 : decode yB 3 = .ok (.iload 5, 2) := by decide +kernel
theorem d5 : decode yB 5 = .ok (.iload 4, 2) := by decide +kernel
theorem d7 : decode yB 7 = .ok (.if_icmp (.ge) 37, 3) := by decide +kernel
theorem d10 : decode yB 10 = .ok (.aload_n 0, 1) := by decide +kernel
theorem d11 : decode yB 11 = .ok (.iload_n 1, 1) := by decide +kernel
theorem d12 : decode yB 12 = .ok (.caload, 1) := by decide +kernel
theorem d13 : decode yB 13 = .ok (.istore 6, 2) := by decide +kernel
theorem d15 : decode yB 15 = .ok (.iload 6, 2) := by decide +kernel
theorem d17 : decode yB 17 = .ok (.sipush 255, 3) := by decide +kernel
theorem d20 : decode yB 20 = .ok (.if_icmp (.le) 6, 3) := by decide +kernel
theorem d26 : decode yB 26 = .ok (.aload_n 2, 1) := by decide +kernel
theorem d27 : decode yB 27 = .ok (.iload_n 3, 1) := by decide +kernel
theorem d28 : decode yB 28 = .ok (.iload 6, 2) := by decide +kernel
theorem d30 : decode yB 30 = .ok (.i2b, 1) := by decide +kernel
theorem d31 : decode yB 31 = .ok (.bastore, 1) := by decide +kernel
theorem d32 : decode yB 32 = .ok (.iinc 1 1, 3) := by decide +kernel
theorem d35 : decode yB 35 = .ok (.iinc 3 1, 3) := by decide +kernel
theorem d38 : decode yB 38 = .ok (.iinc 5 1, 3) := by decide +kernel
theorem d41 : decode yB 41 = .ok (.goto (-38), 3) := by decide +kernel
theorem d44 : decode yB 44 = .ok (.iload 4, 2) := by decide +kernel
theorem d46 : decode yB 46 = .ok (.ireturn, 1) := by decide +kernel
def site : List Cond := []
def tab : Cond := tabOf yN yB 7 (some .int) site
def P (b : Addr) (A : Cell) (d : Addr) (B : Cell) (o q len : Nat) (args : Array Value) (s : State) : Prop := args = #[.ref b, .int (Int32.ofNat o), .ref d, .int (Int32.ofNat q), .int (Int32.ofNat len)] ∧ Ch b A s ∧ Arr .byte d B s ∧ b ≠ d ∧ o + len ≤ A.slots.size ∧ q + len ≤ B.slots.size ∧ ∀ i, i < len → ¬ 255 < cv A (o + i)
def E (b : Addr) (A : Cell) (d : Addr) (B : Cell) (o q len : Nat) (r : Option Value) (s u : State) : Prop := r = some (.int (Int32.ofNat len)) ∧ ∃ B', Put d B' s u ∧ Laid B B' q (q + len) (fun j => Value.int (lo8 (cv A (o + (j - q)))))
/-- no char of the range above 255: len; the places written hold each char's low byte -/
theorem law (l : Launch) (b : Addr) (A : Cell) (d : Addr) (B : Cell) (o q len : Nat) : Law l yN 5 5 0 0 yB 7 (some .int) site (P b A d B o q len) (E b A d B o q len) (copyLocs d q len) 0 0 := by
  refine Law.of_walk (plainFor_of_name (by decide +kernel)) (by decide +kernel) (by decide +kernel) (by decide) (fun _ _ h => by rw [h.1]; rfl) (fun _ U U' hal hh h => ⟨h.1, h.2.1.mv hal hh, h.2.2.1.mv hal hh, h.2.2.2⟩) (fun r U U' V V' h1 hal h2 h => ⟨h.1, h.2.elim fun B' q => ⟨B', q.1.mv h1 h2, q.2⟩⟩) ?_
  intro p e s m args below meth c s₁ X0 hexec hbytes hml hret hlk hnm hown hh0 W hP
  obtain ⟨rfl, hA, hB, hne, l1, l2, hp⟩ := hP
  have c1 : Steps p.tables e below (s₁.setTop (entryFrame m #[.ref b, .int (Int32.ofNat o), .ref d, .int (Int32.ofNat q), .int (Int32.ofNat len)] 7)) (s₁.setTop (mkF m 0 #[.val (.ref b), .val (.int (Int32.ofNat o)), .val (.ref d), .val (.int (Int32.ofNat q)), .val (.int (Int32.ofNat len)), .unset, .unset] [])) := entry rfl
  have hA0 := hA.1.mv X0.warmed.alike hh0
  have hB0 := hB.mv X0.warmed.alike hh0
  have a31 := hA.1.2.2.2
  have c2 : Steps p.tables e below (s₁.setTop (entryFrame m #[.ref b, .int (Int32.ofNat o), .ref d, .int (Int32.ofNat q), .int (Int32.ofNat len)] 7)) (s₁.setTop (mkF m 3 #[.val (.ref b), .val (.int (Int32.ofNat o)), .val (.ref d), .val (.int (Int32.ofNat q)), .val (.int (Int32.ofNat len)), .val (.int 0), .unset] [])) := c1.trans (by
    refine iconstV X0.here hexec rfl 0 (hb hbytes d0) (by decide) ?_
    refine XS.istore X0.here hexec rfl (hb hbytes d1) rfl rfl ?_
    exact Steps.refl _)
  have loop : ∀ (r i : Nat), i + r = len → ∀ (z : Slot), (z = .unset ∨ ∃ w, z = .val w ∧ w.category = 1) → ∀ (Tl : State) (Bk : Cell), Stand p l e { frames := 0, locals := 0, cells := 0, slots := 0 } s m #[.ref b, .int (Int32.ofNat o), .ref d, .int (Int32.ofNat q), .int (Int32.ofNat len)] below meth c Tl ([] ++ copyLocs d q i) 0 0 → Put d Bk s₁ Tl → Laid B Bk q (q + i) (fun j => Value.int (lo8 (cv A (o + (j - q))))) →
      Steps p.tables e below (s₁.setTop (entryFrame m #[.ref b, .int (Int32.ofNat o), .ref d, .int (Int32.ofNat q), .int (Int32.ofNat len)] 7)) (Tl.setTop (mkF m 3 #[.val (.ref b), .val (.int (Int32.ofNat (o + i))), .val (.ref d), .val (.int (Int32.ofNat (q + i))), .val (.int (Int32.ofNat len)), .val (.int (Int32.ofNat i)), z] [])) → ∃ (T' : State) (B' : Cell) (z' : Slot), Stand p l e { frames := 0, locals := 0, cells := 0, slots := 0 } s m #[.ref b, .int (Int32.ofNat o), .ref d, .int (Int32.ofNat q), .int (Int32.ofNat len)] below meth c T' ([] ++ copyLocs d q len) 0 0 ∧ Put d B' s₁ T' ∧ Laid B B' q (q + len) (fun j => Value.int (lo8 (cv A (o + (j - q))))) ∧
      Steps p.tables e below (s₁.setTop (entryFrame m #[.ref b, .int (Int32.ofNat o), .ref d, .int (Int32.ofNat q), .int (Int32.ofNat len)] 7)) (T'.setTop (mkF m 3 #[.val (.ref b), .val (.int (Int32.ofNat (o + len))), .val (.ref d), .val (.int (Int32.ofNat (q + len))), .val (.int (Int32.ofNat len)), .val (.int (Int32.ofNat len)), z'] [])) := by
    intro r
    induction r with
    | zero =>
      intro i hi z hz Tl Bk Xl pl fl cl
      have hil : i = len := by omega
      rw [hil] at Xl fl cl
      exact ⟨Tl, Bk, z, Xl, pl, fl, cl⟩
    | succ r ih =>
      intro i hi z hz Tl Bk Xl pl fl cl
      have all := X0.warmed.alike.symm.trans Xl.warmed.alike
      have hAl := hA0.keep all (pl.other hne hA0.1)
      have hBk := hB0.like all pl.1 fl.1 fl.2.1 fl.2.2.1
      have hlt : q + i < Bk.slots.size := by rw [fl.2.2.1]; omega
      have c3 : Steps p.tables e below (s₁.setTop (entryFrame m #[.ref b, .int (Int32.ofNat o), .ref d, .int (Int32.ofNat q), .int (Int32.ofNat len)] 7)) (Tl.setTop (mkF m 12 #[.val (.ref b), .val (.int (Int32.ofNat (o + i))), .val (.ref d), .val (.int (Int32.ofNat (q + i))), .val (.int (Int32.ofNat len)), .val (.int (Int32.ofNat i)), z] [.int (Int32.ofNat (o + i)), .ref b])) := cl.trans (by
        refine XS.iload Xl.here hexec rfl (hb hbytes d3) rfl ?_
        refine XS.iload Xl.here hexec rfl (hb hbytes d5) rfl ?_
        refine XS.icmpNo Xl.here hexec rfl (hb hbytes d7) rfl (ii_ge_f (lt32 (by omega) (by omega))) ?_
        refine XS.aloadN Xl.here hexec rfl (hb hbytes d10) rfl rfl ?_
        refine XS.iloadN Xl.here hexec rfl (hb hbytes d11) rfl ?_
        exact Steps.refl _)
      have c4 : Steps p.tables e below (s₁.setTop (entryFrame m #[.ref b, .int (Int32.ofNat o), .ref d, .int (Int32.ofNat q), .int (Int32.ofNat len)] 7)) (Tl.setTop (mkF m 13 #[.val (.ref b), .val (.int (Int32.ofNat (o + i))), .val (.ref d), .val (.int (Int32.ofNat (q + i))), .val (.int (Int32.ofNat len)), .val (.int (Int32.ofNat i)), z] [.int (cv A (o + i))])) := c3.trans (by
        refine Xl.aget hexec hAl rfl (hA.get (i := o + i) (by omega)) rfl rfl (hb hbytes d12) ?_
        exact Steps.refl _)
      have c5 : Steps p.tables e below (s₁.setTop (entryFrame m #[.ref b, .int (Int32.ofNat o), .ref d, .int (Int32.ofNat q), .int (Int32.ofNat len)] 7)) (Tl.setTop (mkF m 15 #[.val (.ref b), .val (.int (Int32.ofNat (o + i))), .val (.ref d), .val (.int (Int32.ofNat (q + i))), .val (.int (Int32.ofNat len)), .val (.int (Int32.ofNat i)), .val (.int (cv A (o + i)))] [])) := c4.trans (by
        refine XS.istoreS Xl.here hexec rfl (hb hbytes d13) rfl rfl hz ?_
        exact Steps.refl _)
      have c6 : Steps p.tables e below (s₁.setTop (entryFrame m #[.ref b, .int (Int32.ofNat o), .ref d, .int (Int32.ofNat q), .int (Int32.ofNat len)] 7)) (Tl.setTop (mkF m 31 #[.val (.ref b), .val (.int (Int32.ofNat (o + i))), .val (.ref d), .val (.int (Int32.ofNat (q + i))), .val (.int (Int32.ofNat len)), .val (.int (Int32.ofNat i)), .val (.int (cv A (o + i)))] [.int (lo8 (cv A (o + i))), .int (Int32.ofNat (q + i)), .ref d])) := c5.trans (by
        refine XS.iload Xl.here hexec rfl (hb hbytes d15) rfl ?_
        refine sipushV Xl.here hexec rfl 255 (hb hbytes d17) (by decide) ?_
        refine XS.icmpYes Xl.here hexec rfl (pc0 := 20) rfl (hb hbytes d20) rfl (ii_le_t (hp i (by omega))) (by decide) rfl ?_
        refine XS.aloadN Xl.here hexec rfl (hb hbytes d26) rfl rfl ?_
        refine XS.iloadN Xl.here hexec rfl (hb hbytes d27) rfl ?_
        refine XS.iload Xl.here hexec rfl (hb hbytes d28) rfl ?_
        refine i2b Xl.here hexec rfl (hb hbytes d30) rfl ?_
        exact Steps.refl _)
      obtain ⟨T7, X7, p7, st7⟩ := Xl.aput hexec hBk rfl hlt rfl (fits_lo8 (cv A (o + i))) (g := (mkF m 31 #[.val (.ref b), .val (.int (Int32.ofNat (o + i))), .val (.ref d), .val (.int (Int32.ofNat (q + i))), .val (.int (Int32.ofNat len)), .val (.int (Int32.ofNat i)), .val (.int (cv A (o + i)))] [.int (lo8 (cv A (o + i))), .int (Int32.ofNat (q + i)), .ref d])) rfl (rest := []) rfl (hb hbytes d31)
      have c8 : Steps p.tables e below (s₁.setTop (entryFrame m #[.ref b, .int (Int32.ofNat o), .ref d, .int (Int32.ofNat q), .int (Int32.ofNat len)] 7)) (T7.setTop (mkF m 32 #[.val (.ref b), .val (.int (Int32.ofNat (o + i))), .val (.ref d), .val (.int (Int32.ofNat (q + i))), .val (.int (Int32.ofNat len)), .val (.int (Int32.ofNat i)), .val (.int (cv A (o + i)))] [])) := c6.trans (st7 _ (Steps.refl _))
      have c9 : Steps p.tables e below (s₁.setTop (entryFrame m #[.ref b, .int (Int32.ofNat o), .ref d, .int (Int32.ofNat q), .int (Int32.ofNat len)] 7)) (T7.setTop (mkF m 3 #[.val (.ref b), .val (.int (Int32.ofNat (o + i) + 1)), .val (.ref d), .val (.int (Int32.ofNat (q + i) + 1)), .val (.int (Int32.ofNat len)), .val (.int (Int32.ofNat i + 1)), .val (.int (cv A (o + i)))] [])) := c8.trans (by
        refine iincV X7.here hexec rfl 1 (hb hbytes d32) (by decide) rfl rfl ?_
        refine iincV X7.here hexec rfl 1 (hb hbytes d35) (by decide) rfl rfl ?_
        refine iincV X7.here hexec rfl 1 (hb hbytes d38) (by decide) rfl rfl ?_
        refine XS.goto X7.here hexec rfl (pc0 := 41) rfl (hb hbytes d41) (by decide) rfl ?_
        exact Steps.refl _)
      have c10 : Steps p.tables e below (s₁.setTop (entryFrame m #[.ref b, .int (Int32.ofNat o), .ref d, .int (Int32.ofNat q), .int (Int32.ofNat len)] 7)) (T7.setTop (mkF m 3 #[.val (.ref b), .val (.int (Int32.ofNat (o + (i + 1)))), .val (.ref d), .val (.int (Int32.ofNat (q + (i + 1)))), .val (.int (Int32.ofNat len)), .val (.int (Int32.ofNat (i + 1))), .val (.int (cv A (o + i)))] [])) := by
        have := c9
        rw [succ32, succ32, succ32] at this
        exact this
      exact ih (i + 1) (by omega) _ (Or.inr ⟨_, rfl, rfl⟩) T7 _ (by rw [copyLocs_step, ← List.append_assoc]; exact X7) (pl.trans p7) (fl.step (by omega) hlt (by simp)) c10
  obtain ⟨T9, B9, z9, X9, p9, f9, g9⟩ := loop len 0 (by omega) .unset (Or.inl rfl) s₁ B (by simpa [copyLocs] using X0) ⟨hB0.1, fun _ _ => rfl, rfl⟩ (Laid.zero _ _ _) c2
  have c11 : Steps p.tables e below (s₁.setTop (entryFrame m #[.ref b, .int (Int32.ofNat o), .ref d, .int (Int32.ofNat q), .int (Int32.ofNat len)] 7)) (T9.setTop (mkF m 46 #[.val (.ref b), .val (.int (Int32.ofNat (o + len))), .val (.ref d), .val (.int (Int32.ofNat (q + len))), .val (.int (Int32.ofNat len)), .val (.int (Int32.ofNat len)), z9] [.int (Int32.ofNat len)])) := g9.trans (by
    refine XS.iload X9.here hexec rfl (hb hbytes d3) rfl ?_
    refine XS.iload X9.here hexec rfl (hb hbytes d5) rfl ?_
    refine XS.icmpYes X9.here hexec rfl (pc0 := 7) rfl (hb hbytes d7) rfl (ii_ge_t (nlt32 (by omega) (Nat.le_refl _))) (by decide) rfl ?_
    refine XS.iload X9.here hexec rfl (hb hbytes d44) rfl ?_
    exact Steps.refl _)
  exact ⟨T9, some (.int (Int32.ofNat len)), _, _, _, X9, by simp, rfl, rfl, (fun h => by cases h), ⟨rfl, B9, p9.from hh0, f9⟩, fun fs hl => c11.trans (X9.ireturnOut hexec hret rfl (Or.inl rfl) (hb hbytes d46) hl)⟩
end Cmp5
namespace Cmp3
def yN : MethodName := ⟨"java/lang/StringUTF16", "compress", "([CII)[B"⟩
abbrev yB : ByteArray := jdk_52_method_16_code
theorem d0 : decode yB 0 = .ok (.iload_n 2, 1) := by decide +kernel
theorem d1 : decode yB 1 = .ok (.newarray .byte, 2) := by decide +kernel
theorem d3 : decode yB 3 = .ok (.astore_n 3, 1) := by decide +kernel
theorem d4 : decode yB 4 = .ok (.aload_n 0, 1) := by decide +kernel
theorem d5 : decode yB 5 = .ok (.iload_n 1, 1) := by decide +kernel
theorem d6 : decode yB 6 = .ok (.aload_n 3, 1) := by decide +kernel
theorem d7 : decode yB 7 = .ok (.iconst 0, 1) := by decide +kernel
theorem d8 : decode yB 8 = .ok (.iload_n 2, 1) := by decide +kernel
theorem d9 : decode yB 9 = .ok (.invokestatic 115, 3) := by decide +kernel
theorem d12 : decode yB 12 = .ok (.istore 4, 2) := by decide +kernel
theorem d14 : decode yB 14 = .ok (.iload 4, 2) := by decide +kernel
theorem d16 : decode yB 16 = .ok (.iload_n 2, 1) := by decide +kernel
theorem d17 : decode yB 17 = .ok (.if_icmp (.eq) 40, 3) := by decide +kernel
theorem d57 : decode yB 57 = .ok (.aload_n 3, 1) := by decide +kernel
theorem d58 : decode yB 58 = .ok (.areturn, 1) := by decide +kernel
def site : List Cond := [.arrayClass .byte, Cmp5.tab] ++ staticW U16 115 Cmp5.yN
def tab : Cond := tabOf yN yB 6 (some (.array .byte)) site
def P (b : Addr) (A : Cell) (o len : Nat) (args : Array Value) (s : State) : Prop := args = #[.ref b, .int (Int32.ofNat o), .int (Int32.ofNat len)] ∧ Ch b A s ∧ o + len ≤ A.slots.size ∧ len ≤ 536870912 ∧ ∀ i, i < len → ¬ 255 < cv A (o + i)
def E (b : Addr) (A : Cell) (o len : Nat) (r : Option Value) (s u : State) : Prop := NewArr .byte "[B" len (fun j => .int (lo8 (cv A (o + j)))) r s u ∧ u.heap.size = s.heap.size + 1
/-- no char of the range above 255: a new byte[] of their low bytes -/
theorem law (l : Launch) (b : Addr) (A : Cell) (o len : Nat) : Law l yN 3 3 1 18 yB 6 (some (.array .byte)) site (P b A o len) (E b A o len) [] 1 len := by
  refine Law.of_walk (plainFor_of_name (by decide +kernel)) (by decide +kernel) (by decide +kernel) (by decide) (fun _ _ h => by rw [h.1]; rfl) (fun _ U U' hal hh h => ⟨h.1, h.2.1.mv hal hh, h.2.2⟩) (fun r U U' V V' h1 hal h2 h => ⟨NewArr.mv r U U' V V' h1 hal h2 h.1, by rw [h1, h2]; exact h.2⟩) ?_
  intro p e s m args below meth c s₁ X0 hexec hbytes hml hret hlk hnm hown hh0 W hP
  obtain ⟨rfl, hA, l1, l2, hp⟩ := hP
  have a31 := hA.1.2.2.2
  have c1 : Steps p.tables e below (s₁.setTop (entryFrame m #[.ref b, .int (Int32.ofNat o), .int (Int32.ofNat len)] 6)) (s₁.setTop (mkF m 0 #[.val (.ref b), .val (.int (Int32.ofNat o)), .val (.int (Int32.ofNat len)), .unset, .unset, .unset] [])) := entry rfl
  have c2 : Steps p.tables e below (s₁.setTop (entryFrame m #[.ref b, .int (Int32.ofNat o), .int (Int32.ofNat len)] 6)) (s₁.setTop (mkF m 1 #[.val (.ref b), .val (.int (Int32.ofNat o)), .val (.int (Int32.ofNat len)), .unset, .unset, .unset] [.int (Int32.ofNat len)])) := c1.trans (by
    refine XS.iloadN X0.here hexec rfl (hb hbytes d0) rfl ?_
    exact Steps.refl _)
  obtain ⟨T3, B3, X3, ba3, bs3, bv3, bh3, bf3, st3⟩ := X0.anew hexec (atype := .byte) (wk W (.arrayClass .byte)) rfl (by show len * 1 ≤ _; omega) (by omega) (g := (mkF m 1 #[.val (.ref b), .val (.int (Int32.ofNat o)), .val (.int (Int32.ofNat len)), .unset, .unset, .unset] [.int (Int32.ofNat len)])) rfl (hb hbytes d1) (rest := []) rfl (Nat.le_refl _) (by show 0 + len ≤ len; omega)
  rw [hh0] at ba3 st3
  have kp3 : XT.Kept s T3 := (XT.Kept.of_eq hh0).push bh3
  have hA3 := hA.keep X3.warmed.alike (kp3 _ _ hA.1.1)
  have hne : b ≠ s.heap.size := hA.1.ne
  have c4 : Steps p.tables e below (s₁.setTop (entryFrame m #[.ref b, .int (Int32.ofNat o), .int (Int32.ofNat len)] 6)) (T3.setTop (mkF m 3 #[.val (.ref b), .val (.int (Int32.ofNat o)), .val (.int (Int32.ofNat len)), .unset, .unset, .unset] [.ref s.heap.size])) := c2.trans (st3 _ (Steps.refl _))
  have c5 : Steps p.tables e below (s₁.setTop (entryFrame m #[.ref b, .int (Int32.ofNat o), .int (Int32.ofNat len)] 6)) (T3.setTop (mkF m 9 #[.val (.ref b), .val (.int (Int32.ofNat o)), .val (.int (Int32.ofNat len)), .val (.ref s.heap.size), .unset, .unset] [.int (Int32.ofNat len), .int 0, .ref s.heap.size, .int (Int32.ofNat o), .ref b])) := c4.trans (by
    refine XS.astoreN X3.here hexec rfl (hb hbytes d3) rfl rfl rfl ?_
    refine XS.aloadN X3.here hexec rfl (hb hbytes d4) rfl rfl ?_
    refine XS.iloadN X3.here hexec rfl (hb hbytes d5) rfl ?_
    refine XS.aloadN X3.here hexec rfl (hb hbytes d6) rfl rfl ?_
    refine iconstV X3.here hexec rfl 0 (hb hbytes d7) (by decide) ?_
    refine XS.iloadN X3.here hexec rfl (hb hbytes d8) rfl ?_
    exact Steps.refl _)
  obtain ⟨v6, T6, X6, E6, g6⟩ := X3.callS hexec (Cmp5.law l b A s.heap.size B3 o 0 len) hown (wks W (staticW U16 115 Cmp5.yN)) (wk W Cmp5.tab) (W := 0) (Nat.le_of_ble_eq_true rfl) (Nat.le_of_ble_eq_true rfl) (Nat.le_refl _) (by show 0 + len + 0 ≤ len; omega) (g := (mkF m 9 #[.val (.ref b), .val (.int (Int32.ofNat o)), .val (.int (Int32.ofNat len)), .val (.ref s.heap.size), .unset, .unset] [.int (Int32.ofNat len), .int (Int32.ofNat 0), .ref s.heap.size, .int (Int32.ofNat o), .ref b])) rfl (by rw [hml]; rfl) c5 (argsL := [.ref b, .int (Int32.ofNat o), .ref s.heap.size, .int (Int32.ofNat 0), .int (Int32.ofNat len)]) (rest := []) rfl rfl (by show 2 * 0 + 0 ≤ _; decide) (hb hbytes d9) (⟨rfl, hA3, ba3, hne, l1, by rw [bs3]; simp, hp⟩)
  obtain ⟨rfl, B6, p6, f6⟩ := E6
  have c7 : Steps p.tables e below (s₁.setTop (entryFrame m #[.ref b, .int (Int32.ofNat o), .int (Int32.ofNat len)] 6)) (T6.setTop (mkF m 12 #[.val (.ref b), .val (.int (Int32.ofNat o)), .val (.int (Int32.ofNat len)), .val (.ref s.heap.size), .unset, .unset] [.int (Int32.ofNat len)])) := g6
  have c8 : Steps p.tables e below (s₁.setTop (entryFrame m #[.ref b, .int (Int32.ofNat o), .int (Int32.ofNat len)] 6)) (T6.setTop (mkF m 58 #[.val (.ref b), .val (.int (Int32.ofNat o)), .val (.int (Int32.ofNat len)), .val (.ref s.heap.size), .val (.int (Int32.ofNat len)), .unset] [.ref s.heap.size])) := c7.trans (by
    refine XS.istore X6.here hexec rfl (hb hbytes d12) rfl rfl ?_
    refine XS.iload X6.here hexec rfl (hb hbytes d14) rfl ?_
    refine XS.iloadN X6.here hexec rfl (hb hbytes d16) rfl ?_
    refine XS.icmpYes X6.here hexec rfl (pc0 := 17) rfl (hb hbytes d17) rfl (ii_eq_t rfl) (by decide) rfl ?_
    refine XS.aloadN X6.here hexec rfl (hb hbytes d57) rfl rfl ?_
    exact Steps.refl _)
  have X8 := X6.wide (L' := []) (cells' := 1) (slots' := len) (fun x hx hlt => by
    simp only [List.nil_append, copyLocs, List.mem_map, List.mem_range] at hx
    obtain ⟨i, -, rfl⟩ := hx
    exact absurd hlt (Nat.lt_irrefl _)) (Nat.le_refl _) (by omega)
  exact ⟨T6, some (.ref s.heap.size), _, _, _, X8, rfl, rfl, rfl, (fun h => by cases h), ⟨⟨rfl, B6, ba3.like (X3.warmed.alike.symm.trans X6.warmed.alike) p6.1 f6.1 f6.2.1 f6.2.2.1, f6.2.1.trans bv3, by rw [X6.warmed.alike.findClass, f6.1]; exact bf3, by rw [f6.2.2.1, bs3]; simp, fun j hj => by rw [f6.2.2.2 j, if_pos (by omega)]; rfl, kp3.put p6 (Nat.le_refl _)⟩, by rw [p6.2.2, bh3, hh0]; simp⟩, fun fs hl => c8.trans (X8.areturnOut hexec rfl hret rfl (hb hbytes d58) hl)⟩
end Cmp3
namespace CodL
def yN : MethodName := ⟨"java/lang/StringUTF16", "coderFromArrayLen", "([BI)B"⟩
abbrev yB : ByteArray := jdk_52_method_15_code
theorem d0 : decode yB 0 = .ok (.iload_n 1, 1) := by decide +kernel
theorem d1 : decode yB 1 = .ok (.aload_n 0, 1) := by decide +kernel
theorem d2 : decode yB 2 = .ok (.arraylength, 1) := by decide +kernel
theorem d3 : decode yB 3 = .ok (.isub, 1) := by decide +kernel
theorem d4 : decode yB 4 = .ok (.bipush 31, 2) := by decide +kernel
theorem d6 : decode yB 6 = .ok (.iushr, 1) := by decide +kernel
theorem d7 : decode yB 7 = .ok (.i2b, 1) := by decide +kernel
theorem d8 : decode yB 8 = .ok (.ireturn, 1) := by decide +kernel
def site : List Cond := []
def tab : Cond := tabOf yN yB 2 (some .byte) site
def P (d : Addr) (B : Cell) (args : Array Value) (s : State) : Prop := args = #[.ref d, .int (Int32.ofNat B.slots.size)] ∧ Arr .byte d B s
def E (r : Option Value) (s u : State) : Prop := XT.PureE (some (.int 0)) r s u
/-- an array as long as the number of chars: LATIN1 -/
theorem law (l : Launch) (d : Addr) (B : Cell) : Law l yN 2 2 0 0 yB 2 (some .byte) site (P d B) E [] 0 0 := by
  refine Law.of_walk (plainFor_of_name (by decide +kernel)) (by decide +kernel) (by decide +kernel) (by decide) (fun _ _ h => by rw [h.1]; rfl) (fun _ U U' hal hh h => ⟨h.1, h.2.mv hal hh⟩) (fun r U U' V V' h1 hal h2 h => XT.PureE.mv r U U' V V' h1 hal h2 h) ?_
  intro p e s m args below meth c s₁ X0 hexec hbytes hml hret hlk hnm hown hh0 W hP
  obtain ⟨rfl, hB⟩ := hP
  have hB0 := hB.mv X0.warmed.alike hh0
  have c1 : Steps p.tables e below (s₁.setTop (entryFrame m #[.ref d, .int (Int32.ofNat B.slots.size)] 2)) (s₁.setTop (mkF m 0 #[.val (.ref d), .val (.int (Int32.ofNat B.slots.size))] [])) := entry rfl
  have c2 : Steps p.tables e below (s₁.setTop (entryFrame m #[.ref d, .int (Int32.ofNat B.slots.size)] 2)) (s₁.setTop (mkF m 2 #[.val (.ref d), .val (.int (Int32.ofNat B.slots.size))] [.ref d, .int (Int32.ofNat B.slots.size)])) := c1.trans (by
    refine XS.iloadN X0.here hexec rfl (hb hbytes d0) rfl ?_
    refine XS.aloadN X0.here hexec rfl (hb hbytes d1) rfl rfl ?_
    exact Steps.refl _)
  have c3 : Steps p.tables e below (s₁.setTop (entryFrame m #[.ref d, .int (Int32.ofNat B.slots.size)] 2)) (s₁.setTop (mkF m 8 #[.val (.ref d), .val (.int (Int32.ofNat B.slots.size))] [.int (lo8 (ushr (Int32.ofNat B.slots.size - Int32.ofNat B.slots.size) 31))])) := c2.trans (by
    refine X0.alen hexec hB0 rfl rfl (hb hbytes d2) ?_
    refine XS.isub X0.here hexec rfl (hb hbytes d3) rfl ?_
    refine bipushV X0.here hexec rfl 31 (hb hbytes d4) (by decide) ?_
    refine iushr X0.here hexec rfl (hb hbytes d6) rfl ?_
    refine i2b X0.here hexec rfl (hb hbytes d7) rfl ?_
    exact Steps.refl _)
  have e0 : lo8 (ushr (Int32.ofNat B.slots.size - Int32.ofNat B.slots.size) 31) = 0 := by rw [Int32.sub_self]; decide
  rw [e0] at c3
  exact ⟨s₁, some (.int 0), _, _, _, X0, rfl, rfl, rfl, (fun h => by cases h), ⟨rfl, hh0⟩, fun fs hl => c3.trans (X0.ireturnOut hexec hret rfl (Or.inr (Or.inr (Or.inl rfl))) (hb hbytes d8) hl)⟩
end CodL
/-- the String at a is Latin-1 over a new byte[] (the heap's one new cell): the low bytes of the len chars of A from o on; every cell but a is kept -/
def Got (a : Addr) (D : Cell) (fV fC : Field) (A : Cell) (o len : Nat) (r : Option Value) (s u : State) : Prop := r = none ∧ ∃ D' V : Cell, Blank "java/lang/String" a D' u ∧ Same D D' [fV.slot, fC.slot] ∧ D'.slots[fV.slot]? = some (.ref s.heap.size) ∧ D'.slots[fC.slot]? = some (.int 0) ∧ Arr .byte s.heap.size V u ∧ V.vm = .none ∧ u.vm.findClass "[B" = some V.cls ∧ V.slots.size = len ∧ (∀ j, j < len → V.slots[j]? = some (.int (lo8 (cv A (o + j))))) ∧ (∀ (y : Addr) (c : Cell), y ≠ a → s.heap[y]? = some c → u.heap[y]? = some c) ∧ u.heap.size = s.heap.size + 1
theorem Got.mv {a : Addr} {D A : Cell} {fV fC : Field} {o len : Nat} : ∀ r (U U' V V' : State), U'.heap = U.heap → V.vm.Alike V'.vm → V'.heap = V.heap → Got a D fV fC A o len r U V → Got a D fV fC A o len r U' V' :=
  fun r U U' V V' h1 hal h2 ⟨e0, D', X, a1, a2, a3, a4, a5, a6, a7, a8, a9, a10, a11⟩ => ⟨e0, D', X, a1.mv hal h2, a2, by rw [h1]; exact a3, a4, by rw [h1]; exact a5.mv hal h2, a6, by rw [hal.findClass]; exact a7, a8, a9, by rw [h1, h2]; exact a10, by rw [h1, h2]; exact a11⟩
namespace New4
def yN : MethodName := ⟨"java/lang/String", "<init>", "([CIILjava/lang/Void;)V"⟩
abbrev yB : ByteArray := jdk_42_method_149_code
theorem d0 : decode yB 0 = .ok (.aload_n 0, 1) := by decide +kernel
theorem d1 : decode yB 1 = .ok (.invokespecial 1, 3) := by decide +kernel
theorem d4 : decode yB 4 = .ok (.iload_n 3, 1) := by decide +kernel
theorem d5 : decode yB 5 = .ok (.ifCond (.ne) 22, 3) := by decide +kernel
theorem d27 : decode yB 27 = .ok (.getstatic 38, 3) := by decide +kernel
theorem d30 : decode yB 30 = .ok (.ifCond (.eq) 28, 3) := by decide +kernel
theorem d33 : decode yB 33 = .ok (.aload_n 1, 1) := by decide +kernel
theorem d34 : decode yB 34 = .ok (.iload_n 2, 1) := by decide +kernel
theorem d35 : decode yB 35 = .ok (.iload_n 3, 1) := by decide +kernel
theorem d36 : decode yB 36 = .ok (.invokestatic 177, 3) := by decide +kernel
theorem d39 : decode yB 39 = .ok (.astore 5, 2) := by decide +kernel
theorem d41 : decode yB 41 = .ok (.aload_n 0, 1) := by decide +kernel
theorem d42 : decode yB 42 = .ok (.aload 5, 2) := by decide +kernel
theorem d44 : decode yB 44 = .ok (.iload_n 3, 1) := by decide +kernel
theorem d45 : decode yB 45 = .ok (.invokestatic 47, 3) := by decide +kernel
theorem d48 : decode yB 48 = .ok (.putfield 15, 3) := by decide +kernel
theorem d51 : decode yB 51 = .ok (.aload_n 0, 1) := by decide +kernel
theorem d52 : decode yB 52 = .ok (.aload 5, 2) := by decide +kernel
theorem d54 : decode yB 54 = .ok (.putfield 9, 3) := by decide +kernel
theorem d57 : decode yB 57 = .ok (.return_, 1) := by decide +kernel
def site : List Cond := [.fieldLink "java/lang/String" 38 "java/lang/String" "COMPACT_STRINGS" "Z", Cmp3.tab, CodL.tab, .laysFinal "java/lang/String" "java/lang/String" "value" "[B", .fieldLink "java/lang/String" 9 "java/lang/String" "value" "[B", .laysFinal "java/lang/String" "java/lang/String" "coder" "B", .fieldLink "java/lang/String" 15 "java/lang/String" "coder" "B"] ++ objW "java/lang/String" 1 ++ staticW "java/lang/String" 177 Cmp3.yN ++ staticW "java/lang/String" 47 CodL.yN
def tab : Cond := tabOf yN yB 6 none site
def P (a : Addr) (D : Cell) (fV fC : Field) (b : Addr) (A : Cell) (z : Int32) (o len : Nat) (args : Array Value) (s : State) : Prop := args = #[.ref a, .ref b, .int (Int32.ofNat o), .int (Int32.ofNat len), .null] ∧ Blank "java/lang/String" a D s ∧ Found "java/lang/String" "value" "[B" fV s ∧ Found "java/lang/String" "coder" "B" fC s ∧ Ch b A s ∧ StaticIs s "java/lang/String" "COMPACT_STRINGS" "Z" (.int z) ∧ ¬ z = 0 ∧ 0 < len ∧ o + len ≤ A.slots.size ∧ len ≤ 536870912 ∧ ∀ i, i < len → ¬ 255 < cv A (o + i)
def E (a : Addr) (D : Cell) (fV fC : Field) (A : Cell) (o len : Nat) (r : Option Value) (s u : State) : Prop := Got a D fV fC A o len r s u
/-- len > 0, no char of the range above 255: a Latin-1 String of their low bytes -/
theorem law (l : Launch) (a : Addr) (D : Cell) (fV fC : Field) (b : Addr) (A : Cell) (z : Int32) (o len : Nat) : Law l yN 5 4 2 35 yB 6 none site (P a D fV fC b A z o len) (E a D fV fC A o len) [⟨a, fC.slot⟩, ⟨a, fV.slot⟩] 1 len := by
  refine Law.of_walk (plainFor_of_name (by decide +kernel)) (by decide +kernel) (by decide +kernel) (by decide) (fun _ _ h => by rw [h.1]; rfl) (fun _ U U' hal hh h => ⟨h.1, h.2.1.mv hal hh, h.2.2.1.al hal, h.2.2.2.1.al hal, h.2.2.2.2.1.mv hal hh, h.2.2.2.2.2.1.there hal hh, h.2.2.2.2.2.2⟩) (fun r U U' V V' h1 hal h2 h => Got.mv r U U' V V' h1 hal h2 h) ?_
  intro p e s m args below meth c s₁ X0 hexec hbytes hml hret hlk hnm hown hh0 W hP
  obtain ⟨rfl, hB, f1, f2, hA, s1, hz, l0, l1, l2, hp⟩ := hP
  have a31 := hA.1.2.2.2
  have c1 : Steps p.tables e below (s₁.setTop (entryFrame m #[.ref a, .ref b, .int (Int32.ofNat o), .int (Int32.ofNat len), .null] 6)) (s₁.setTop (mkF m 0 #[.val (.ref a), .val (.ref b), .val (.int (Int32.ofNat o)), .val (.int (Int32.ofNat len)), .val .null, .unset] [])) := entry rfl
  have c2 : Steps p.tables e below (s₁.setTop (entryFrame m #[.ref a, .ref b, .int (Int32.ofNat o), .int (Int32.ofNat len), .null] 6)) (s₁.setTop (mkF m 1 #[.val (.ref a), .val (.ref b), .val (.int (Int32.ofNat o)), .val (.int (Int32.ofNat len)), .val .null, .unset] [.ref a])) := c1.trans (by
    refine XS.aloadN X0.here hexec rfl (hb hbytes d0) rfl rfl ?_
    exact Steps.refl _)
  obtain ⟨T3, X3, q3, st3⟩ := X0.oinit hexec hown (wks W (objW "java/lang/String" 1)) (g := (mkF m 1 #[.val (.ref a), .val (.ref b), .val (.int (Int32.ofNat o)), .val (.int (Int32.ofNat len)), .val .null, .unset] [.ref a])) rfl (by rw [hml]; rfl) (rest := []) rfl (hb hbytes d1) (W := 0) (by show 2 * 0 + 0 ≤ _; decide) (Nat.le_of_ble_eq_true rfl) (Nat.le_of_ble_eq_true rfl)
  have hh3 := q3.trans hh0
  have c4 : Steps p.tables e below (s₁.setTop (entryFrame m #[.ref a, .ref b, .int (Int32.ofNat o), .int (Int32.ofNat len), .null] 6)) (T3.setTop (mkF m 27 #[.val (.ref a), .val (.ref b), .val (.int (Int32.ofNat o)), .val (.int (Int32.ofNat len)), .val .null, .unset] [])) := (c2.trans (st3 _ (Steps.refl _))).trans (by
    refine XS.iloadN X3.here hexec rfl (hb hbytes d4) rfl ?_
    refine XS.ifYes X3.here hexec rfl (pc0 := 5) rfl (hb hbytes d5) rfl (i0_ne_t (nz32 (by omega) l0)) (by decide) rfl ?_
    exact Steps.refl _)
  obtain ⟨T5, X5, q5, st5⟩ := X3.sget hexec hown (wk W (.fieldLink "java/lang/String" 38 "java/lang/String" "COMPACT_STRINGS" "Z")) s1 (fun _ _ h => by rw [hh3]; exact h) (g := (mkF m 27 #[.val (.ref a), .val (.ref b), .val (.int (Int32.ofNat o)), .val (.int (Int32.ofNat len)), .val .null, .unset] [])) rfl (hb hbytes d27)
  have hh5 := q5.trans hh3
  have c6 : Steps p.tables e below (s₁.setTop (entryFrame m #[.ref a, .ref b, .int (Int32.ofNat o), .int (Int32.ofNat len), .null] 6)) (T5.setTop (mkF m 30 #[.val (.ref a), .val (.ref b), .val (.int (Int32.ofNat o)), .val (.int (Int32.ofNat len)), .val .null, .unset] [.int z])) := c4.trans (st5 _ (Steps.refl _))
  have c7 : Steps p.tables e below (s₁.setTop (entryFrame m #[.ref a, .ref b, .int (Int32.ofNat o), .int (Int32.ofNat len), .null] 6)) (T5.setTop (mkF m 36 #[.val (.ref a), .val (.ref b), .val (.int (Int32.ofNat o)), .val (.int (Int32.ofNat len)), .val .null, .unset] [.int (Int32.ofNat len), .int (Int32.ofNat o), .ref b])) := c6.trans (by
    refine XS.ifNo X5.here hexec rfl (hb hbytes d30) rfl (i0_eq_f hz) ?_
    refine XS.aloadN X5.here hexec rfl (hb hbytes d33) rfl rfl ?_
    refine XS.iloadN X5.here hexec rfl (hb hbytes d34) rfl ?_
    refine XS.iloadN X5.here hexec rfl (hb hbytes d35) rfl ?_
    exact Steps.refl _)
  obtain ⟨v8, T8, X8, E8, g8⟩ := X5.callS hexec (Cmp3.law l b A o len) hown (wks W (staticW "java/lang/String" 177 Cmp3.yN)) (wk W Cmp3.tab) (W := 0) (Nat.le_of_ble_eq_true rfl) (Nat.le_of_ble_eq_true rfl) (Nat.le_refl _) (by show 0 + len ≤ len; omega) (g := (mkF m 36 #[.val (.ref a), .val (.ref b), .val (.int (Int32.ofNat o)), .val (.int (Int32.ofNat len)), .val .null, .unset] [.int (Int32.ofNat len), .int (Int32.ofNat o), .ref b])) rfl (by rw [hml]; rfl) c7 (argsL := [.ref b, .int (Int32.ofNat o), .int (Int32.ofNat len)]) (rest := []) rfl rfl (by show 2 * 0 + 0 ≤ _; decide) (hb hbytes d36) (⟨rfl, hA.mv X5.warmed.alike hh5, l1, l2, hp⟩)
  obtain ⟨e8, z8⟩ := E8
  obtain ⟨rfl, N, n1, n2, n3, n4, n5, n6⟩ := NewArr.mv _ T5 s _ _ hh5.symm (Vm.Alike.refl _) rfl e8
  rw [hh5] at z8
  have hB1 := hB.keep X8.warmed.alike (n6 _ _ hB.1)
  have hne : s.heap.size ≠ a := (Nat.ne_of_lt (Array.getElem?_eq_some_iff.mp hB.1).1).symm
  have c9 : Steps p.tables e below (s₁.setTop (entryFrame m #[.ref a, .ref b, .int (Int32.ofNat o), .int (Int32.ofNat len), .null] 6)) (T8.setTop (mkF m 39 #[.val (.ref a), .val (.ref b), .val (.int (Int32.ofNat o)), .val (.int (Int32.ofNat len)), .val .null, .unset] [.ref s.heap.size])) := g8
  have c10 : Steps p.tables e below (s₁.setTop (entryFrame m #[.ref a, .ref b, .int (Int32.ofNat o), .int (Int32.ofNat len), .null] 6)) (T8.setTop (mkF m 45 #[.val (.ref a), .val (.ref b), .val (.int (Int32.ofNat o)), .val (.int (Int32.ofNat len)), .val .null, .val (.ref s.heap.size)] [.int (Int32.ofNat N.slots.size), .ref s.heap.size, .ref a])) := by
    have hc : Steps p.tables e below (s₁.setTop (entryFrame m #[.ref a, .ref b, .int (Int32.ofNat o), .int (Int32.ofNat len), .null] 6)) (T8.setTop (mkF m 45 #[.val (.ref a), .val (.ref b), .val (.int (Int32.ofNat o)), .val (.int (Int32.ofNat len)), .val .null, .val (.ref s.heap.size)] [.int (Int32.ofNat len), .ref s.heap.size, .ref a])) := c9.trans (by
      refine XS.astore X8.here hexec rfl (hb hbytes d39) rfl rfl rfl ?_
      refine XS.aloadN X8.here hexec rfl (hb hbytes d41) rfl rfl ?_
      refine XS.aload X8.here hexec rfl (hb hbytes d42) rfl rfl ?_
      refine XS.iloadN X8.here hexec rfl (hb hbytes d44) rfl ?_
      exact Steps.refl _)
    rw [n4]; exact hc
  obtain ⟨v11, T11, X11, E11, g11⟩ := X8.callS hexec (CodL.law l s.heap.size N) hown (wks W (staticW "java/lang/String" 47 CodL.yN)) (wk W CodL.tab) (W := 1) (Nat.le_of_ble_eq_true rfl) (Nat.le_of_ble_eq_true rfl) (Nat.le_refl _) (by show 0 + len + 0 ≤ len; omega) (g := (mkF m 45 #[.val (.ref a), .val (.ref b), .val (.int (Int32.ofNat o)), .val (.int (Int32.ofNat len)), .val .null, .val (.ref s.heap.size)] [.int (Int32.ofNat N.slots.size), .ref s.heap.size, .ref a])) rfl (by rw [hml]; rfl) c10 (argsL := [.ref s.heap.size, .int (Int32.ofNat N.slots.size)]) (rest := [.ref a]) rfl rfl (by show 2 * 0 + (1 + 0) ≤ _; decide) (hb hbytes d45) (⟨rfl, n1⟩)
  obtain ⟨rfl, q11⟩ := E11
  have hB11 := hB1.mv (X8.warmed.alike.symm.trans X11.warmed.alike) q11
  have c12 : Steps p.tables e below (s₁.setTop (entryFrame m #[.ref a, .ref b, .int (Int32.ofNat o), .int (Int32.ofNat len), .null] 6)) (T11.setTop (mkF m 48 #[.val (.ref a), .val (.ref b), .val (.int (Int32.ofNat o)), .val (.int (Int32.ofNat len)), .val .null, .val (.ref s.heap.size)] [.int 0, .ref a])) := g11
  obtain ⟨T13, X13, p13, bl13, sl13, st13⟩ := X11.finit hexec hown (wk W (.fieldLink "java/lang/String" 15 "java/lang/String" "coder" "B")) (Or.inr ⟨_, (wk W (.laysFinal "java/lang/String" "java/lang/String" "coder" "B"))⟩) (Or.inl ⟨rfl, hnm⟩) f2 (Or.inl rfl) hB11 (t := .byte) (by decide +kernel) rfl (g := (mkF m 48 #[.val (.ref a), .val (.ref b), .val (.int (Int32.ofNat o)), .val (.int (Int32.ofNat len)), .val .null, .val (.ref s.heap.size)] [.int 0, .ref a])) rfl (rest := []) rfl (hb hbytes d48)
  have c14 : Steps p.tables e below (s₁.setTop (entryFrame m #[.ref a, .ref b, .int (Int32.ofNat o), .int (Int32.ofNat len), .null] 6)) (T13.setTop (mkF m 54 #[.val (.ref a), .val (.ref b), .val (.int (Int32.ofNat o)), .val (.int (Int32.ofNat len)), .val .null, .val (.ref s.heap.size)] [.ref s.heap.size, .ref a])) := (c12.trans (st13 _ (Steps.refl _))).trans (by
    refine XS.aloadN X13.here hexec rfl (hb hbytes d51) rfl rfl ?_
    refine XS.aload X13.here hexec rfl (hb hbytes d52) rfl rfl ?_
    exact Steps.refl _)
  obtain ⟨T15, X15, p15, bl15, sl15, st15⟩ := X13.finit hexec hown (wk W (.fieldLink "java/lang/String" 9 "java/lang/String" "value" "[B")) (Or.inr ⟨_, (wk W (.laysFinal "java/lang/String" "java/lang/String" "value" "[B"))⟩) (Or.inl ⟨rfl, hnm⟩) f1 (Or.inl rfl) bl13 (t := (.array .byte)) (by decide +kernel) rfl (g := (mkF m 54 #[.val (.ref a), .val (.ref b), .val (.int (Int32.ofNat o)), .val (.int (Int32.ofNat len)), .val .null, .val (.ref s.heap.size)] [.ref s.heap.size, .ref a])) rfl (rest := []) rfl (hb hbytes d54)
  have c16 : Steps p.tables e below (s₁.setTop (entryFrame m #[.ref a, .ref b, .int (Int32.ofNat o), .int (Int32.ofNat len), .null] 6)) (T15.setTop (mkF m 57 #[.val (.ref a), .val (.ref b), .val (.int (Int32.ofNat o)), .val (.int (Int32.ofNat len)), .val .null, .val (.ref s.heap.size)] [])) := c14.trans (st15 _ (Steps.refl _))
  have ap := apart (Or.inr ⟨_, (wk W (.laysFinal "java/lang/String" "java/lang/String" "value" "[B"))⟩) (Or.inr ⟨_, (wk W (.laysFinal "java/lang/String" "java/lang/String" "coder" "B"))⟩) f1 f2 (t₁ := .array .byte) (t₂ := .byte) (by decide +kernel) (by decide +kernel) (by decide)
  have al := X8.warmed.alike.symm.trans X15.warmed.alike
  have n7 : T11.heap[s.heap.size]? = some N := by rw [q11]; exact n1.1
  exact ⟨T15, none, _, _, _, X15, by simp, rfl, by omega, (fun _ => rfl), ⟨rfl, _, N, bl15, ((Same.refl D _).set _ (by simp)).set _ (by simp), sl15, (Cell.slots_setSlot_ne _ ap).trans sl13, n1.keep al (p15.other hne (p13.other hne n7)), n2, by rw [al.findClass]; exact n3, n4, n5, fun y c h1 h2 => p15.other h1 (p13.other h1 (by rw [q11]; exact n6 y c h2)), by rw [p15.2.2, p13.2.2, q11]; exact z8⟩, fun fs hl => c16.trans (X15.returnOut hexec hret (hb hbytes d57) hl)⟩
end New4
namespace New1
def yN : MethodName := ⟨"java/lang/String", "<init>", "([C)V"⟩
abbrev yB : ByteArray := jdk_42_method_3_code
theorem d0 : decode yB 0 = .ok (.aload_n 0, 1) := by decide +kernel
theorem d1 : decode yB 1 = .ok (.aload_n 1, 1) := by decide +kernel
theorem d2 : decode yB 2 = .ok (.iconst 0, 1) := by decide +kernel
theorem d3 : decode yB 3 = .ok (.aload_n 1, 1) := by decide +kernel
theorem d4 : decode yB 4 = .ok (.arraylength, 1) := by decide +kernel
theorem d5 : decode yB 5 = .ok (.aconst_null, 1) := by decide +kernel
theorem d6 : decode yB 6 = .ok (.invokespecial 27, 3) := by decide +kernel
theorem d9 : decode yB 9 = .ok (.return_, 1) := by decide +kernel
def site : List Cond := [New4.tab] ++ initW "java/lang/String" 27 New4.yN
def tab : Cond := tabOf yN yB 2 none site
def P (a : Addr) (D : Cell) (fV fC : Field) (b : Addr) (A : Cell) (z : Int32) (args : Array Value) (s : State) : Prop := args = #[.ref a, .ref b] ∧ Blank "java/lang/String" a D s ∧ Found "java/lang/String" "value" "[B" fV s ∧ Found "java/lang/String" "coder" "B" fC s ∧ Ch b A s ∧ StaticIs s "java/lang/String" "COMPACT_STRINGS" "Z" (.int z) ∧ ¬ z = 0 ∧ 0 < A.slots.size ∧ A.slots.size ≤ 536870912 ∧ ∀ i, i < A.slots.size → ¬ 255 < cv A i
def E (a : Addr) (D : Cell) (fV fC : Field) (A : Cell) (r : Option Value) (s u : State) : Prop := Got a D fV fC A 0 A.slots.size r s u
/-- new String(chars), not empty, no char above 255: a Latin-1 String of their low bytes -/
theorem law (l : Launch) (a : Addr) (D : Cell) (fV fC : Field) (b : Addr) (A : Cell) (z : Int32) : Law l yN 2 1 3 52 yB 2 none site (P a D fV fC b A z) (E a D fV fC A) [⟨a, fC.slot⟩, ⟨a, fV.slot⟩] 1 A.slots.size := by
  refine Law.of_walk (plainFor_of_name (by decide +kernel)) (by decide +kernel) (by decide +kernel) (by decide) (fun _ _ h => by rw [h.1]; rfl) (fun _ U U' hal hh h => ⟨h.1, h.2.1.mv hal hh, h.2.2.1.al hal, h.2.2.2.1.al hal, h.2.2.2.2.1.mv hal hh, h.2.2.2.2.2.1.there hal hh, h.2.2.2.2.2.2⟩) (fun r U U' V V' h1 hal h2 h => Got.mv r U U' V V' h1 hal h2 h) ?_
  intro p e s m args below meth c s₁ X0 hexec hbytes hml hret hlk hnm hown hh0 W hP
  obtain ⟨rfl, hB, f1, f2, hA, s1, hz, l0, l2, hp⟩ := hP
  have c1 : Steps p.tables e below (s₁.setTop (entryFrame m #[.ref a, .ref b] 2)) (s₁.setTop (mkF m 0 #[.val (.ref a), .val (.ref b)] [])) := entry rfl
  have c2 : Steps p.tables e below (s₁.setTop (entryFrame m #[.ref a, .ref b] 2)) (s₁.setTop (mkF m 6 #[.val (.ref a), .val (.ref b)] [.null, .int (Int32.ofNat A.slots.size), .int 0, .ref b, .ref a])) := c1.trans (by
    refine XS.aloadN X0.here hexec rfl (hb hbytes d0) rfl rfl ?_
    refine XS.aloadN X0.here hexec rfl (hb hbytes d1) rfl rfl ?_
    refine iconstV X0.here hexec rfl 0 (hb hbytes d2) (by decide) ?_
    refine XS.aloadN X0.here hexec rfl (hb hbytes d3) rfl rfl ?_
    refine X0.alen hexec (hA.1.mv X0.warmed.alike hh0) rfl rfl (hb hbytes d4) ?_
    refine XS.aconstNull X0.here hexec rfl (hb hbytes d5) ?_
    exact Steps.refl _)
  obtain ⟨v3, T3, X3, E3, g3⟩ := X0.callN hexec (New4.law l a D fV fC b A z 0 A.slots.size) rfl hown (wks W (initW "java/lang/String" 27 New4.yN)) (W New4.tab (by simp only [site, List.mem_cons, List.mem_append, true_or, or_true])) (W := 0) (Nat.le_of_ble_eq_true rfl) (Nat.le_of_ble_eq_true rfl) (Nat.le_refl _) (by show 0 + A.slots.size ≤ A.slots.size; omega) (g := (mkF m 6 #[.val (.ref a), .val (.ref b)] [.null, .int (Int32.ofNat A.slots.size), .int (Int32.ofNat 0), .ref b, .ref a])) rfl (by rw [hml]; rfl) c2 (argsL := [.ref b, .int (Int32.ofNat 0), .int (Int32.ofNat A.slots.size), .null]) (rest := []) rfl rfl (by show 2 * 0 + 0 ≤ _; decide) (hb hbytes d6) (⟨rfl, hB.mv X0.warmed.alike hh0, f1.al X0.warmed.alike, f2.al X0.warmed.alike, hA.mv X0.warmed.alike hh0, s1.there X0.warmed.alike hh0, hz, l0, by omega, l2, fun i hi => by rw [Nat.zero_add]; exact hp i hi⟩)
  have e0 := Got.mv _ s₁ s _ _ hh0.symm (Vm.Alike.refl _) rfl E3
  obtain rfl := e0.1
  have c4 : Steps p.tables e below (s₁.setTop (entryFrame m #[.ref a, .ref b] 2)) (T3.setTop (mkF m 9 #[.val (.ref a), .val (.ref b)] [])) := g3
  exact ⟨T3, none, _, _, _, X3, by simp, rfl, by omega, (fun _ => rfl), e0, fun fs hl => c4.trans (X3.returnOut hexec hret (hb hbytes d9) hl)⟩
theorem pays {l : Launch} {R : Room} {p : Program} {e : Env} {below : List Frame} {s : State} {sargs : Array Value} {len W : Nat} (a : Addr) (D : Cell) (fV fC : Field) (b : Addr) (A : Cell) (z : Int32) (htab : tab.before sargs s = true) (hfr : 4 ≤ R.frames) (hlo : W + 65 ≤ R.locals) :
    Back l R p e below s sargs yN len W (fun A₁ a₁ => A₁.cells + 1 ≤ R.cells ∧ A₁.slots + A.slots.size ≤ R.slots ∧ P a D fV fC b A z a₁ A₁.U) (fun A₁ _ v₁ B₁ => E a D fV fC A v₁ A₁.U B₁.U ∧ B₁.locs = A₁.locs ++ [⟨a, fC.slot⟩, ⟨a, fV.slot⟩] ∧ B₁.cells = A₁.cells + 1 ∧ B₁.slots = A₁.slots + A.slots.size) :=
  (law l a D fV fC b A z).pays htab hfr (by omega)
end New1
/-- the byte, read back as charAt reads it, is the char -/
theorem lo8_mask {x : Int32} (h0 : ¬ x < 0) (h1 : ¬ 255 < x) : lo8 x &&& 255 = x := by
  have t : ∀ k : Fin 256, lo8 (Int32.ofNat k.val) &&& 255 = Int32.ofNat k.val := by decide +kernel
  rw [Int32.lt_iff_toInt_lt] at h0 h1
  have e0 : (0 : Int32).toInt = 0 := rfl
  have e1 : (255 : Int32).toInt = 255 := rfl
  obtain ⟨k, hk⟩ : ∃ k : Nat, x.toInt = k := ⟨x.toInt.toNat, by omega⟩
  have hx : x = Int32.ofNat k := Int32.toInt_inj.mp (by rw [hk, Int32.toInt_ofNat_small (by omega)])
  rw [hx]
  exact t ⟨k, by omega⟩
end StrChars
namespace StrChars.Road
open Jvm Sem ClassFile Op Lib Jvm.Stand Jvm.Free Jvm.Free.XT
open Jvm.Lib.Cold (StaticIs)
abbrev ST : String := "java/lang/String"
/-- every table word that New1's law asks, flat -/
abbrev words : List Jvm.Cond := [.code New1.yN New1.yB 2 none, .initialized ST, .methodLink ST 27 New4.yN, .instanceMethod New4.yN,
  .code New4.yN New4.yB 6 none, .fieldLink ST 38 ST "COMPACT_STRINGS" "Z", .laysFinal ST ST "value" "[B", .fieldLink ST 9 ST "value" "[B", .laysFinal ST ST "coder" "B", .fieldLink ST 15 ST "coder" "B",
  .methodLink ST 1 Lib.objectInit, .instanceMethod Lib.objectInit, .code Lib.objectInit ⟨#[0xb1]⟩ 1 none, .methodLink ST 177 Cmp3.yN, .static Cmp3.yN, .methodLink ST 47 CodL.yN, .static CodL.yN,
  .code Cmp3.yN Cmp3.yB 6 (some (.array .byte)), .initialized U16, .arrayClass .byte, .methodLink U16 115 Cmp5.yN, .static Cmp5.yN, .code Cmp5.yN Cmp5.yB 7 (some .int), .code CodL.yN CodL.yB 2 (some .byte)]
theorem tab_of {a : Array Value} {s : State} (h : ∀ w ∈ words, w.before a s = true) : New1.tab.before a s = true := by
  have h5 : Cmp5.tab.before a s = true := unparts (wk h (.code Cmp5.yN Cmp5.yB 7 (some .int))) (wks h (.initialized Cmp5.yN.cls :: Cmp5.site))
  have hc : CodL.tab.before a s = true := unparts (wk h (.code CodL.yN CodL.yB 2 (some .byte))) (wks h (.initialized CodL.yN.cls :: CodL.site))
  have q5 : ∀ w ∈ Cmp5.tab :: words, w.before a s = true := fun w hw => (List.mem_cons.mp hw).elim (fun e => e ▸ h5) (h w)
  have h3 : Cmp3.tab.before a s = true := unparts (wk q5 (.code Cmp3.yN Cmp3.yB 6 (some (.array .byte)))) (wks q5 (.initialized Cmp3.yN.cls :: Cmp3.site))
  have q3 : ∀ w ∈ Cmp3.tab :: CodL.tab :: words, w.before a s = true := fun w hw => (List.mem_cons.mp hw).elim (fun e => e ▸ h3) fun hw => (List.mem_cons.mp hw).elim (fun e => e ▸ hc) (h w)
  have h4 : New4.tab.before a s = true := unparts (wk q3 (.code New4.yN New4.yB 6 none)) (wks q3 (.initialized New4.yN.cls :: New4.site))
  have q4 : ∀ w ∈ New4.tab :: words, w.before a s = true := fun w hw => (List.mem_cons.mp hw).elim (fun e => e ▸ h4) (h w)
  exact unparts (wk q4 (.code New1.yN New1.yB 2 none)) (wks q4 (.initialized New1.yN.cls :: New1.site))
/-- the words ride from the start Z to the walk's own state -/
theorem moved {Z s : State} {a0 args : Array Value} (hZ : Z.Warmed39 s.vm) (hw : ∀ d ∈ words, d.before a0 Z = true) : ∀ d ∈ words, d.before args s = true := fun d hd => by
  have q := hw d hd
  have t : ∀ d ∈ words, d = .arrayClass .byte ∨ (d.onTables && d.keepsFace) = true := by decide +kernel
  rcases t d hd with rfl | t
  · exact RoadKit.mvA hZ q
  · exact RoadKit.mv hZ q t
/-- WHAT COMES BACK, over the tables of the start Z: h the heap at the call, h' behind it -/
def Q (Z : State) (x : Addr) (A : Cell) (h : Heap) (v : Option Value) (h' : Heap) (L : List Loc) : Prop := v = none ∧ (∀ y ∈ L, y.base = x) ∧ RoadKit.Keep h h' [x] ∧ h'.size = h.size + 1 ∧ RoadKit.Exa Z h' x ST ∧ RoadKit.Fld Z h' x ST "value" "[B" (.ref h.size) ∧ RoadKit.Fld Z h' x ST "coder" "B" (.int 0) ∧
  (∃ V : Cell, RoadKit.Arr Z h' h.size V .byte ∧ V.vm = .none ∧ Z.vm.findClass "[B" = some V.cls ∧ V.slots.size = A.slots.size ∧ ∀ j, j < A.slots.size → V.slots[j]? = some (.int (lo8 (cv A j)))) ∧
  ∀ (O n d : String) (w : Value), RoadKit.Fld Z h x O n d w → RoadKit.slotOf Z O n d ≠ RoadKit.slotOf Z ST "value" "[B" → RoadKit.slotOf Z O n d ≠ RoadKit.slotOf Z ST "coder" "B" → RoadKit.Fld Z h' x O n d w
/-- **new String(chars) AT A CALL, IN THE ROAD'S FORM**: for specialBack behind newO: x the fresh String, b the char[] with the cell A -/
theorem back {p : Program} {l : Launch} {e : Env} {R : Room} {s : State} {args : Array Value} {below : List Frame} {len W : Nat} {Z : State} {a0 : Array Value} {h : Heap} (hZ : Z.Warmed39 s.vm) (hw : ∀ d ∈ words, d.before a0 Z = true) {kI : Nat} (wi : (Jvm.Cond.instantiable ST kI).before a0 Z = true)
    {x b : Addr} {A : Cell} {z : Int32} {v0 c0 : Value} (E : RoadKit.Exa Z h x ST) (V : RoadKit.Fld Z h x ST "value" "[B" v0) (C : RoadKit.Fld Z h x ST "coder" "B" c0) (K : RoadKit.Arr Z h b A .char) (hty : Typed .char A) (S : RoadKit.Sta Z h ST "COMPACT_STRINGS" "Z" (.int z)) (hz : ¬ z = 0)
    (l0 : 0 < A.slots.size) (l2 : A.slots.size ≤ 536870912) (hp : ∀ i, i < A.slots.size → ¬ 255 < cv A i) (hfr : 4 ≤ R.frames) (hlo : W + 65 ≤ R.locals) :
    Back l R p e below s args New1.yN len W (fun P a => a = #[.ref x, .ref b] ∧ P.U.heap = h ∧ P.cells + 1 ≤ R.cells ∧ P.slots + A.slots.size ≤ R.slots)
      (fun P _ v B => ∃ L, Q Z x A h v B.U.heap L ∧ B.locs = P.locs ++ L ∧ B.cells = P.cells + 1 ∧ B.slots = P.slots + A.slots.size) := by
  intro m meth c P g ig mk a X hg hsize hdg hW hn hp'
  obtain ⟨rfl, rfl, r1, r2⟩ := hp'
  have al : Z.vm.Alike P.U.vm := hZ.alike.trans X.warmed.alike
  obtain ⟨D, cfV, kV, iV, fV, hD, gV, stV, knV, obV, asV, slV⟩ := id V
  obtain ⟨D', cfC, kC, iC, fC, hD', gC, stC, -, -, asC, slC⟩ := id C
  cases hD.symm.trans hD'
  obtain ⟨D2, kD, e1, e2, e3, e4, e5⟩ := id E
  cases hD.symm.trans e1
  obtain ⟨c2, k2, i1, i2, i3, -⟩ := Cond.instantiable_spec wi
  cases e2.symm.trans i1
  cases e3.symm.trans i2
  obtain ⟨kU, u1, u2⟩ := al.2.2 _ _ e3
  have hB : Blank ST x D P.U := ⟨hD, ⟨knV, fun q hq => by rw [hq] at obV; cases obV⟩, by rw [al.findClass]; exact e2, kU, u1, by rw [u2]; exact i3, by rw [u2]; exact e5 i3⟩
  have F1 : Found ST "value" "[B" fV P.U := ⟨SBG.found_only al ⟨cfV, kV, iV, gV⟩, stV⟩
  have F2 : Found ST "coder" "B" fC P.U := ⟨SBG.found_only al ⟨cfC, kC, iC, gC⟩, stC⟩
  have hA : Ch b A P.U := ⟨⟨K.1, State.isArrayOf_alike al K.2.1, K.2.2, by omega⟩, hty⟩
  have hS : StaticIs P.U ST "COMPACT_STRINGS" "Z" (.int z) := by
    obtain ⟨cfS, iS, kS, fS, st, cS, t1, t2, t3, t4, t5, t6, t7⟩ := S
    exact StaticIs.there (s := { Z with heap := P.U.heap }) ⟨cfS, iS, kS, fS, st, cS, t1, t2, t3, t4, t5, (fun q => by rw [q] at t6; cases t6), t7⟩ al rfl
  obtain ⟨v, B, X', ⟨⟨hv, E', V', q1, q2, q3, q4, q5, q6, q7, q8, q9, q10, q11⟩, hl, hc, hs⟩, st⟩ := New1.pays x D fV fC b A z (tab_of (moved hZ hw)) hfr hlo m meth c P g ig mk _ X hg hsize hdg hW hn ⟨r1, r2, rfl, hB, F1, F2, hA, hS, hz, l0, l2, hp⟩
  have al' : Z.vm.Alike B.U.vm := hZ.alike.trans X'.warmed.alike
  have hsz : E'.slots.size = D.slots.size := by
    obtain ⟨-, -, -, kB, w1, w2, w3⟩ := q1
    obtain ⟨kB', y1, y2⟩ := al'.2.2 _ _ e3
    rw [q2.2.1] at w1
    cases w1.symm.trans y1
    rw [w3, e5 i3, y2]
  refine ⟨v, B, X', ⟨_, ⟨hv, ?_, ⟨by omega, fun y cy hy hn' => q10 y cy (by simpa using hn') hy, fun y cy hy => ?_⟩, q11, ⟨E', _, q1.1, by rw [q2.2.1]; exact e2, by rw [q2.2.1]; exact e3, by rw [q2.1]; exact obV, fun _ => by rw [hsz]; exact e5 i3⟩,
    ⟨E', cfV, kV, iV, fV, q1.1, gV, stV, by rw [q2.1]; exact knV, by rw [q2.1]; exact obV, by rw [q2.2.1]; exact asV, q3⟩, ⟨E', cfC, kC, iC, fC, q1.1, gC, stC, by rw [q2.1]; exact knV, by rw [q2.1]; exact obV, by rw [q2.2.1]; exact asC, q4⟩,
    ⟨V', ⟨q5.1, State.isArrayOf_alike al'.symm q5.2.1, q5.2.2.1⟩, q6, by rw [← al'.findClass]; exact q7, q8, fun j hj => by have := q9 j hj; rwa [Nat.zero_add] at this⟩, fun O n d w F n1 n2 => ?_⟩, hl, hc, hs⟩, st⟩
  · intro y hy
    simp only [List.mem_cons, List.not_mem_nil, or_false] at hy
    rcases hy with rfl | rfl <;> rfl
  · by_cases q : y = x
    · subst q
      cases hD.symm.trans hy
      exact ⟨E', q1.1, q2.2.1, q2.1, hsz⟩
    · exact ⟨cy, q10 y cy q hy, rfl, rfl, rfl⟩
  · obtain ⟨D3, cf, k, i, f, g1, g2, g3, g4, g5, g6, g7⟩ := F
    cases hD.symm.trans g1
    simp only [RoadKit.slotOf, g2, gV, gC, Option.map_some, Option.getD_some] at n1 n2
    exact ⟨E', cf, k, i, f, q1.1, g2, g3, by rw [q2.1]; exact g4, by rw [q2.1]; exact g5, by rw [q2.2.1]; exact g6, by rw [q2.2.2 f.slot (by simp [n1, n2])]; exact g7⟩
end StrChars.Road
namespace StrChars.Road
open Jvm Sem ClassFile Op Lib Jvm.Stand Jvm.Free Jvm.Free.XT
/-- WHAT COMES BACK, the byte[] as a list of values -/
def QA (Z : State) (x : Addr) (zn : Int32) (cs : List Int32) (h : Heap) (v : Option Value) (h' : Heap) (L : List Loc) : Prop := v = none ∧ (∀ y ∈ L, y.base = x) ∧ RoadKit.Keep h h' [x] ∧ h'.size = h.size + 1 ∧ RoadKit.Exa Z h' x ST ∧ RoadKit.Fld Z h' x ST "value" "[B" (.ref h.size) ∧ RoadKit.Fld Z h' x ST "coder" "B" (.int 0) ∧
  (∃ kb, Z.vm.findClass "[B" = some kb ∧ RoadKit.Arv Z h' h.size kb .byte zn (cs.map fun c => .int (lo8 c)) (.int 0)) ∧
  ∀ (O n d : String) (w : Value), RoadKit.Fld Z h x O n d w → RoadKit.slotOf Z O n d ≠ RoadKit.slotOf Z ST "value" "[B" → RoadKit.slotOf Z O n d ≠ RoadKit.slotOf Z ST "coder" "B" → RoadKit.Fld Z h' x O n d w
/-- **new String(chars) AT A CALL, THE ARRAYS AS LISTS**: the char[] at b holds cs, not empty, no char above 255 -/
theorem backArv {p : Program} {l : Launch} {e : Env} {R : Room} {s : State} {args : Array Value} {below : List Frame} {len W : Nat} {Z : State} {a0 : Array Value} {h : Heap} (hZ : Z.Warmed39 s.vm) (hw : ∀ d ∈ words, d.before a0 Z = true) {kI : Nat} (wi : (Jvm.Cond.instantiable ST kI).before a0 Z = true)
    {x b : Addr} {k : ClassId} {zn z : Int32} {cs : List Int32} {dv v0 c0 : Value} (E : RoadKit.Exa Z h x ST) (V : RoadKit.Fld Z h x ST "value" "[B" v0) (C : RoadKit.Fld Z h x ST "coder" "B" c0) (K : RoadKit.Arv Z h b k .char zn (cs.map Value.int) dv) (S : RoadKit.Sta Z h ST "COMPACT_STRINGS" "Z" (.int z)) (hz : ¬ z = 0)
    (hlen : zn.toNatClampNeg = cs.length) (h0 : 0 < cs.length) (hbig : cs.length ≤ 536870912) (hall : ∀ c ∈ cs, ¬ 255 < c) (hfr : 4 ≤ R.frames) (hlo : W + 65 ≤ R.locals) :
    Back l R p e below s args New1.yN len W (fun P a => a = #[.ref x, .ref b] ∧ P.U.heap = h ∧ P.cells + 1 ≤ R.cells ∧ P.slots + cs.length ≤ R.slots)
      (fun P _ v B => ∃ L, QA Z x zn cs h v B.U.heap L ∧ B.locs = P.locs ++ L ∧ B.cells = P.cells + 1 ∧ B.slots = P.slots + cs.length) := by
  obtain ⟨A, K1, K2, K3, K4, K5, K6⟩ := K
  have e : A.slots.size = cs.length := K3.trans hlen
  have hat : ∀ (i : Nat) (hi : i < cs.length), A.slots[i]? = some (.int cs[i]) := fun i hi => by rw [K5 i (by omega)]; simp [List.getD_eq_getElem?_getD, hi]
  have hcv : ∀ (i : Nat) (hi : i < cs.length), cv A i = cs[i] := fun i hi => by unfold cv; rw [hat i hi]
  have hty : Typed .char A := fun i v hv => by
    have hi : i < A.slots.size := (Array.getElem?_eq_some_iff.mp hv).1
    have q := K5 i hi
    rw [hv] at q
    rw [Option.some.inj q]
    exact K6 i hi
  refine Back.mono (back hZ hw wi E V C K1 hty S hz (by omega) (by omega) (fun i hi => by rw [hcv i (by omega)]; exact hall _ (List.getElem_mem _)) hfr hlo) (fun P a hp => ⟨hp.1, hp.2.1, hp.2.2.1, by rw [e]; exact hp.2.2.2⟩) (fun P a v B hp hq => ?_)
  obtain ⟨L, ⟨q1, q2, q3, q4, q5, q6, q7, ⟨V', v1, v2, v3, v4, v5⟩, q9⟩, hl, hc, hs⟩ := hq
  refine ⟨L, ⟨q1, q2, q3, q4, q5, q6, q7, ⟨V'.cls, v3, V', v1, rfl, by rw [v4, e, hlen], K4, fun i hi => ?_, fun i hi => ?_⟩, q9⟩, hl, hc, by rw [hs, e]⟩
  · have hi' : i < cs.length := by omega
    rw [v5 i (by omega), hcv i hi']; simp [List.getD_eq_getElem?_getD, hi']
  · have hi' : i < cs.length := by omega
    simp only [List.getD_eq_getElem?_getD, List.getElem?_map, List.getElem?_eq_getElem hi', Option.map_some, Option.getD_some]
    exact fits_lo8 _
end StrChars.Road
namespace StrChars.Road
open Jvm Sem ClassFile Op Lib Jvm.Stand Jvm.Free Jvm.Free.XT
/-- WHAT COMES BACK, in the writer's own shape -/
def QV (Z : State) (x : Addr) (N : Int32) (bs : List Int32) (h : Heap) (n0 : Nat) (v : Option Value) (h' : Heap) (L : List Loc) : Prop := v = none ∧ RoadKit.Fr n0 L ∧ RoadKit.Keep h h' [x] ∧ RoadKit.Exa Z h' x ST ∧ RoadKit.Fld Z h' x ST "coder" "B" (.int 0) ∧
  ∃ (t : Addr) (kb : ClassId), n0 ≤ t ∧ h.size ≤ t ∧ ¬ t = x ∧ RoadKit.Fld Z h' x ST "value" "[B" (.ref t) ∧ RoadKit.Arv Z h' t kb .byte N (bs.map Value.int) (.int 0)
/-- **new String(chars) AT A CALL, FOR THE WRITER**: a char[] of n known ints, each 0 to 255 -/
theorem backV {p : Program} {l : Launch} {e : Env} {R : Room} {s : State} {args : Array Value} {below : List Frame} {len W : Nat} {Z : State} {a0 : Array Value} {h : Heap} (hZ : Z.Warmed39 s.vm) (hw : ∀ d ∈ words, d.before a0 Z = true) {kI : Nat} (wi : (Jvm.Cond.instantiable ST kI).before a0 Z = true)
    {x b : Addr} {kC : ClassId} {cs bs : List Int32} {d v0 c0 : Value} {z N : Int32} {n n0 : Nat} (hx0 : n0 ≤ x) (hh0 : n0 ≤ h.size) (E : RoadKit.Exa Z h x ST) (V : RoadKit.Fld Z h x ST "value" "[B" v0) (C : RoadKit.Fld Z h x ST "coder" "B" c0) (K : RoadKit.Arv Z h b kC .char N (cs.map Value.int) d) (S : RoadKit.Sta Z h ST "COMPACT_STRINGS" "Z" (.int z)) (hz : ¬ z = 0)
    (hn : cs.length = n) (hN : N = Int32.ofNat n) (l0 : 0 < n) (l2 : n ≤ 4000) (hp : ∀ c ∈ cs, ¬ c < 0 ∧ ¬ (255 : Int32) < c) (hb : bs = cs.map (fun c => c.toInt8.toInt32)) (hfr : 4 ≤ R.frames) (hlo : W + 65 ≤ R.locals) :
    Back l R p e below s args (⟨"java/lang/String", "<init>", "([C)V"⟩ : MethodName) len W (fun P a => a = #[.ref x, .ref b] ∧ P.U.heap = h ∧ P.cells + 1 ≤ R.cells ∧ P.slots + n ≤ R.slots)
      (fun P _ v B => ∃ L, QV Z x N bs h n0 v B.U.heap L ∧ B.locs = P.locs ++ L ∧ B.cells = P.cells + 1 ∧ B.slots = P.slots + n) := by
  subst hn hN hb
  refine Back.mono (backArv hZ hw wi E V C K S hz (n32 (by omega)) l0 (by omega) (fun c hc => (hp c hc).2) hfr hlo) (fun P a hp => hp) (fun P a v B hp hq => ?_)
  obtain ⟨L, ⟨q1, q2, q3, q4, q5, q6, q7, ⟨kb, v1, v2⟩, q9⟩, hl, hc, hs⟩ := hq
  exact ⟨L, ⟨q1, fun y hy => by rw [q2 y hy]; exact hx0, q3, q5, q7, h.size, kb, hh0, Nat.le_refl _, Nat.ne_of_gt E.lt, q6, by rw [List.map_map]; exact v2⟩, hl, hc, hs⟩
end StrChars.Road
namespace StrChars
open Jvm Sem ClassFile Op Lib Jvm.Stand Jvm.Free.XT Jvm.Free.ALB Jvm.Free.JM Jvm.Free
open Jvm.Lib.Cold (StaticIs)
def hi8 (x : Int32) : Int32 := lo8 (x >>> ((8 : Int32) &&& 31))
/-- what StringUTF16.getChar makes of two bytes -/
def pairCh (u v : Int32) : Int32 := (((u &&& 255) <<< ((0 : Int32) &&& 31)) ||| ((v &&& 255) <<< ((8 : Int32) &&& 31))).toUInt32.toUInt16.toUInt32.toInt32
theorem shr0 (c : Int32) : c >>> ((0 : Int32) &&& 31) = c := by
  have e : ((0 : Int32) &&& 31) = 0 := by decide
  rw [e]
  apply Int32.toBitVec_inj.mp
  rw [Int32.toBitVec_shiftRight]
  have e1 : ((0 : Int32).toBitVec.smod 32) = 0#32 := by decide
  rw [e1, BitVec.sshiftRight_eq']
  exact BitVec.sshiftRight_zero
theorem lo8_and (x : Int32) : (lo8 x &&& 255).toBitVec.toNat = x.toBitVec.toNat % 256 := by
  have h : (lo8 x).toBitVec = (x.toBitVec.signExtend 8).signExtend 32 := by rw [lo8, Int8.toBitVec_toInt32, Int32.toBitVec_toInt8]
  rw [Int32.toBitVec_and, BitVec.toNat_and, h]
  have e : ((x.toBitVec.signExtend 8).signExtend 32).toNat % 256 = x.toBitVec.toNat % 256 := by
    rw [BitVec.toNat_signExtend]
    have hlt := x.toBitVec.isLt
    simp only [BitVec.toNat_setWidth, BitVec.toNat_signExtend]
    split <;> split <;> omega
  rw [← e]
  exact Nat.and_two_pow_sub_one_eq_mod _ 8
theorem pair_says {c : Int32} (h0 : ¬ c < 0) (h1 : ¬ 65535 < c) : pairCh (lo8 c) (hi8 c) = c := by
  rw [Int32.lt_iff_toInt_lt] at h0 h1
  have e0 : (0 : Int32).toInt = 0 := rfl
  have e1 : (65535 : Int32).toInt = 65535 := rfl
  have hc : c.toInt = c.toBitVec.toNat := by
    have := c.toBitVec.isLt
    have e : c.toInt = c.toBitVec.toInt := rfl
    rw [e] at h0 h1
    rw [e]
    rw [BitVec.toInt_eq_toNat_cond] at h0 h1 ⊢
    split at h0 <;> split <;> omega
  have hn : c.toBitVec.toNat < 65536 := by omega
  have a1 := lo8_and c
  have a2 : (hi8 c &&& 255).toBitVec.toNat = c.toBitVec.toNat / 256 := by
    rw [hi8, lo8_and]
    have e : ((8 : Int32) &&& 31) = 8 := by decide
    rw [e, Int32.toBitVec_shiftRight]
    have e2 : ((8 : Int32).toBitVec.smod 32) = 8#32 := by decide
    rw [e2, BitVec.sshiftRight_eq', BitVec.toNat_sshiftRight_of_msb_false (by rw [BitVec.msb_eq_false_iff_two_mul_lt]; omega)]
    show c.toBitVec.toNat >>> 8 % 256 = _
    rw [Nat.shiftRight_eq_div_pow]
    omega
  unfold pairCh
  apply Int32.toBitVec_inj.mp
  apply BitVec.eq_of_toNat_eq
  have f0 : ((0 : Int32) &&& 31) = 0 := by decide
  have f8 : ((8 : Int32) &&& 31) = 8 := by decide
  rw [f0, f8]
  have g : (((lo8 c &&& 255) <<< (0 : Int32)) ||| ((hi8 c &&& 255) <<< (8 : Int32))).toBitVec.toNat = c.toBitVec.toNat := by
    rw [Int32.toBitVec_or, Int32.toBitVec_shiftLeft, Int32.toBitVec_shiftLeft]
    have s0 : ((0 : Int32).toBitVec.smod 32) = 0#32 := by decide
    have s8 : ((8 : Int32).toBitVec.smod 32) = 8#32 := by decide
    rw [s0, s8, BitVec.toNat_or]
    simp only [BitVec.shiftLeft_eq', BitVec.toNat_shiftLeft, a1, a2]
    show (c.toBitVec.toNat % 256) <<< 0 % 2 ^ 32 ||| (c.toBitVec.toNat / 256) <<< 8 % 2 ^ 32 = _
    rw [Nat.shiftLeft_zero, Nat.mod_eq_of_lt (show c.toBitVec.toNat % 256 < 2 ^ 32 by omega), Nat.mod_eq_of_lt (show (c.toBitVec.toNat / 256) <<< 8 < 2 ^ 32 by rw [Nat.shiftLeft_eq]; omega), Nat.or_comm, ← Nat.shiftLeft_add_eq_or_of_lt (by omega), Nat.shiftLeft_eq]
    omega
  show BitVec.toNat (((((lo8 c &&& 255) <<< (0 : Int32)) ||| ((hi8 c &&& 255) <<< (8 : Int32))).toBitVec.setWidth 16).setWidth 32) = _
  rw [BitVec.toNat_setWidth, BitVec.toNat_setWidth, g]
  omega
end StrChars
namespace StrChars
open Jvm Sem ClassFile Op Lib Jvm.Stand Jvm.Free.XT Jvm.Free.ALB Jvm.Free.JM Jvm.Free
open Jvm.Lib.Cold (StaticIs)
theorem shr1 {n : Nat} (h : 2 * n < 2 ^ 31) : Int32.ofNat (2 * n) >>> ((1 : Int32) &&& 31) = Int32.ofNat n := by
  have e : ((1 : Int32) &&& 31) = 1 := by decide
  rw [e]
  apply Int32.toBitVec_inj.mp
  rw [Int32.toBitVec_shiftRight]
  have e1 : ((1 : Int32).toBitVec.smod 32) = 1#32 := by decide
  have hm : (BitVec.ofNat 32 (2 * n)).toNat = 2 * n := by rw [BitVec.toNat_ofNat, Nat.mod_eq_of_lt (by omega)]
  rw [e1, BitVec.sshiftRight_eq']
  apply BitVec.eq_of_toNat_eq
  show ((BitVec.ofNat 32 (2 * n)).sshiftRight 1).toNat = (BitVec.ofNat 32 n).toNat
  rw [BitVec.toNat_sshiftRight_of_msb_false (by rw [BitVec.msb_eq_false_iff_two_mul_lt, hm]; omega), hm, BitVec.toNat_ofNat, Nat.shiftRight_eq_div_pow]
  omega
/-- charAt's cast of a byte read back -/
def chr8 (u : Int32) : Int32 := (u &&& 255).toUInt32.toUInt16.toUInt32.toInt32
theorem chr8_lo8 {c : Int32} (h0 : ¬ c < 0) (h1 : ¬ 255 < c) : chr8 (lo8 c) = c := by
  have t : ∀ k : Fin 256, (Int32.ofNat k.val).toUInt32.toUInt16.toUInt32.toInt32 = Int32.ofNat k.val := by decide +kernel
  unfold chr8
  rw [lo8_mask h0 h1]
  rw [Int32.lt_iff_toInt_lt] at h0 h1
  have e0 : (0 : Int32).toInt = 0 := rfl
  have e1 : (255 : Int32).toInt = 255 := rfl
  obtain ⟨k, hk⟩ : ∃ k : Nat, c.toInt = k := ⟨c.toInt.toNat, by omega⟩
  have hx : c = Int32.ofNat k := Int32.toInt_inj.mp (by rw [hk, Int32.toInt_ofNat_small (by omega)])
  rw [hx]
  exact t ⟨k, by omega⟩
theorem narrow_ch {c : Int32} (h0 : ¬ c < 0) (h1 : ¬ 65535 < c) : narrow .char (.int c) = .int c := by
  have q : narrow .char (.int (pairCh (lo8 c) (hi8 c))) = .int (pairCh (lo8 c) (hi8 c)) := narrow_c _
  rwa [pair_says h0 h1] at q
/-- the array's cell V codes the n chars f 0 .. f (n - 1) by the coder cd, as the JDK does: coder 1 just where some char is above 255 -/
def Cod (cd : Int32) (n : Nat) (f : Nat → Int32) (V : Cell) : Prop := (cd = 0 ∧ V.slots.size = n ∧ ∀ j, j < n → V.slots[j]? = some (.int (lo8 (f j))) ∧ ¬ 255 < f j) ∨ (cd = 1 ∧ V.slots.size = 2 * n ∧ (∀ j, j < n → V.slots[2 * j]? = some (.int (lo8 (f j))) ∧ V.slots[2 * j + 1]? = some (.int (hi8 (f j)))) ∧ ∃ j, j < n ∧ 255 < f j)
theorem Cod.cd {cd : Int32} {n : Nat} {f : Nat → Int32} {V : Cell} (h : Cod cd n f V) : cd = 0 ∨ cd = 1 := h.imp (fun q => q.1) fun q => q.1
theorem Cod.len {cd : Int32} {n : Nat} {f : Nat → Int32} {V : Cell} (h : Cod cd n f V) (hs : V.slots.size < 2 ^ 31) : Int32.ofNat V.slots.size >>> (cd &&& 31) = Int32.ofNat n := by
  rcases h with ⟨rfl, h, -⟩ | ⟨rfl, h, -⟩
  · rw [shr0, h]
  · rw [h, shr1 (by omega)]
/-- **x is a String of the n chars f 0 .. f (n - 1)**, Latin-1 or UTF-16; its array at t has the cell V -/
def Txt (x t : Addr) (V : Cell) (cd : Int32) (n : Nat) (f : Nat → Int32) (U : State) : Prop := Exact "java/lang/String" x U ∧ Has x "java/lang/String" "value" "[B" (.ref t) U ∧ Has x "java/lang/String" "coder" "B" (.int cd) U ∧ XT.Arr .byte t V U ∧ Cod cd n f V ∧ ∀ j, j < n → ¬ f j < 0 ∧ ¬ 65535 < f j
theorem Txt.mv {x t : Addr} {V : Cell} {cd : Int32} {n : Nat} {f : Nat → Int32} {U U' : State} (h : Txt x t V cd n f U) (hal : U.vm.Alike U'.vm) (hh : U'.heap = U.heap) : Txt x t V cd n f U' := ⟨h.1.mv hal hh, h.2.1.mv hal hh, h.2.2.1.mv hal hh, h.2.2.2.1.mv hal hh, h.2.2.2.2⟩
namespace Cdr
def yN : MethodName := ⟨"java/lang/String", "coder", "()B"⟩
abbrev yB : ByteArray := jdk_42_method_152_code
theorem d0 : decode yB 0 = .ok (.getstatic 38, 3) := by decide +kernel
theorem d3 : decode yB 3 = .ok (.ifCond (.eq) 10, 3) := by decide +kernel
theorem d6 : decode yB 6 = .ok (.aload_n 0, 1) := by decide +kernel
theorem d7 : decode yB 7 = .ok (.getfield 15, 3) := by decide +kernel
theorem d10 : decode yB 10 = .ok (.goto 4, 3) := by decide +kernel
theorem d14 : decode yB 14 = .ok (.ireturn, 1) := by decide +kernel
def site : List Cond := [.fieldLink "java/lang/String" 38 "java/lang/String" "COMPACT_STRINGS" "Z", .fieldLink "java/lang/String" 15 "java/lang/String" "coder" "B"]
def tab : Cond := tabOf yN yB 1 (some .byte) site
def P (x : Addr) (cd z : Int32) (args : Array Value) (s : State) : Prop := args = #[.ref x] ∧ Has x "java/lang/String" "coder" "B" (.int cd) s ∧ (cd = 0 ∨ cd = 1) ∧ StaticIs s "java/lang/String" "COMPACT_STRINGS" "Z" (.int z) ∧ ¬ z = 0
def E (cd : Int32) (r : Option Value) (s u : State) : Prop := XT.PureE (some (.int cd)) r s u
theorem law (l : Launch) (x : Addr) (cd z : Int32) : Law l yN 1 0 0 0 yB 1 (some .byte) site (P x cd z) (E cd) [] 0 0 := by
  refine Law.of_walk (plainFor_of_name (by decide +kernel)) (by decide +kernel) (by decide +kernel) (by decide) (fun _ _ h => by rw [h.1]; rfl) (fun _ U U' hal hh h => ⟨h.1, h.2.1.mv hal hh, h.2.2.1, h.2.2.2.1.there hal hh, h.2.2.2.2⟩) (fun r U U' V V' h1 hal h2 h => XT.PureE.mv r U U' V V' h1 hal h2 h) ?_
  intro p e s m args below meth c s₁ X0 hexec hbytes hml hret hlk hnm hown hh0 W hP
  obtain ⟨rfl, hx, hc, s1, hz⟩ := hP
  have c1 : Steps p.tables e below (s₁.setTop (entryFrame m #[.ref x] 1)) (s₁.setTop (mkF m 0 #[.val (.ref x)] [])) := entry rfl
  obtain ⟨T2, X2, q2, st2⟩ := X0.sget hexec hown (wk W (.fieldLink "java/lang/String" 38 "java/lang/String" "COMPACT_STRINGS" "Z")) s1 (fun _ _ h => by rw [hh0]; exact h) (g := (mkF m 0 #[.val (.ref x)] [])) rfl (hb hbytes d0)
  have hh2 := q2.trans hh0
  have c3 : Steps p.tables e below (s₁.setTop (entryFrame m #[.ref x] 1)) (T2.setTop (mkF m 7 #[.val (.ref x)] [.ref x])) := (c1.trans (st2 _ (Steps.refl _))).trans (by
    refine XS.ifNo X2.here hexec rfl (hb hbytes d3) rfl (i0_eq_f hz) ?_
    refine XS.aloadN X2.here hexec rfl (hb hbytes d6) rfl rfl ?_
    exact Steps.refl _)
  obtain ⟨T4, X4, q4, st4⟩ := X2.hget hexec hown (wk W (.fieldLink "java/lang/String" 15 "java/lang/String" "coder" "B")) (hx.mv X2.warmed.alike hh2) (g := (mkF m 7 #[.val (.ref x)] [.ref x])) rfl (rest := []) rfl (hb hbytes d7)
  have c5 : Steps p.tables e below (s₁.setTop (entryFrame m #[.ref x] 1)) (T4.setTop (mkF m 14 #[.val (.ref x)] [.int cd])) := (c3.trans (st4 _ (Steps.refl _))).trans (by
    refine XS.goto X4.here hexec rfl (pc0 := 10) rfl (hb hbytes d10) (by decide) rfl ?_
    exact Steps.refl _)
  exact ⟨T4, some (.int cd), _, _, _, X4, rfl, rfl, rfl, (fun h => by cases h), ⟨rfl, q4.trans hh2⟩, fun fs hl => c5.trans (X4.ireturnOut hexec hret (by rcases hc with rfl | rfl <;> rfl) (Or.inr (Or.inr (Or.inl rfl))) (hb hbytes d14) hl)⟩
end Cdr
namespace Len
def yN : MethodName := ⟨"java/lang/String", "length", "()I"⟩
abbrev yB : ByteArray := jdk_42_method_54_code
theorem d0 : decode yB 0 = .ok (.aload_n 0, 1) := by decide +kernel
theorem d1 : decode yB 1 = .ok (.getfield 9, 3) := by decide +kernel
theorem d4 : decode yB 4 = .ok (.arraylength, 1) := by decide +kernel
theorem d5 : decode yB 5 = .ok (.aload_n 0, 1) := by decide +kernel
theorem d6 : decode yB 6 = .ok (.invokevirtual 335, 3) := by decide +kernel
theorem d9 : decode yB 9 = .ok (.ishr, 1) := by decide +kernel
theorem d10 : decode yB 10 = .ok (.ireturn, 1) := by decide +kernel
def site : List Cond := [.fieldLink "java/lang/String" 9 "java/lang/String" "value" "[B", Cdr.tab] ++ virtW "java/lang/String" 335 "java/lang/String" Cdr.yN Cdr.yN
def tab : Cond := tabOf yN yB 1 (some .int) site
def P (x t : Addr) (V : Cell) (cd : Int32) (n : Nat) (f : Nat → Int32) (z : Int32) (args : Array Value) (s : State) : Prop := args = #[.ref x] ∧ Txt x t V cd n f s ∧ StaticIs s "java/lang/String" "COMPACT_STRINGS" "Z" (.int z) ∧ ¬ z = 0
def E (n : Nat) (r : Option Value) (s u : State) : Prop := XT.PureE (some (.int (Int32.ofNat n))) r s u
/-- length() of a String of n chars, in either coding -/
theorem law (l : Launch) (x t : Addr) (V : Cell) (cd : Int32) (n : Nat) (f : Nat → Int32) (z : Int32) : Law l yN 1 0 1 13 yB 1 (some .int) site (P x t V cd n f z) (E n) [] 0 0 := by
  refine Law.of_walk (plainFor_of_name (by decide +kernel)) (by decide +kernel) (by decide +kernel) (by decide) (fun _ _ h => by rw [h.1]; rfl) (fun _ U U' hal hh h => ⟨h.1, h.2.1.mv hal hh, h.2.2.1.there hal hh, h.2.2.2⟩) (fun r U U' V V' h1 hal h2 h => XT.PureE.mv r U U' V V' h1 hal h2 h) ?_
  intro p e s m args below meth c s₁ X0 hexec hbytes hml hret hlk hnm hown hh0 W hP
  obtain ⟨rfl, hx, s1, hz⟩ := hP
  have v31 := hx.2.2.2.1.2.2.2
  have c1 : Steps p.tables e below (s₁.setTop (entryFrame m #[.ref x] 1)) (s₁.setTop (mkF m 1 #[.val (.ref x)] [.ref x])) := Steps.trans (entry rfl) (by
    show Steps p.tables e below (s₁.setTop (mkF m 0 #[.val (.ref x)] [])) _
    refine XS.aloadN X0.here hexec rfl (hb hbytes d0) rfl rfl ?_
    exact Steps.refl _)
  obtain ⟨T2, X2, q2, st2⟩ := X0.hget hexec hown (wk W (.fieldLink "java/lang/String" 9 "java/lang/String" "value" "[B")) (hx.mv X0.warmed.alike hh0).2.1 (g := (mkF m 1 #[.val (.ref x)] [.ref x])) rfl (rest := []) rfl (hb hbytes d1)
  have hh2 := q2.trans hh0
  have hx2 := hx.mv X2.warmed.alike hh2
  have c3 : Steps p.tables e below (s₁.setTop (entryFrame m #[.ref x] 1)) (T2.setTop (mkF m 6 #[.val (.ref x)] [.ref x, .int (Int32.ofNat V.slots.size)])) := (c1.trans (st2 _ (Steps.refl _))).trans (by
    refine X2.alen hexec hx2.2.2.2.1 rfl rfl (hb hbytes d4) ?_
    refine XS.aloadN X2.here hexec rfl (hb hbytes d5) rfl rfl ?_
    exact Steps.refl _)
  obtain ⟨v4, T4, X4, E4, g4⟩ := X2.callV hexec (Cdr.law l x cd z) hown (wks W (virtW "java/lang/String" 335 "java/lang/String" Cdr.yN Cdr.yN)) rfl (by decide) (wk W Cdr.tab) (W := 1) (Nat.le_of_ble_eq_true rfl) (Nat.le_of_ble_eq_true rfl) (Nat.le_refl _) (Nat.le_refl _) (hx2.1.fc X2.warmed.alike) hx2.1.is (g := (mkF m 6 #[.val (.ref x)] [.ref x, .int (Int32.ofNat V.slots.size)])) rfl (by rw [hml]; rfl) c3 (argsL := []) (rest := [.int (Int32.ofNat V.slots.size)]) rfl rfl (by show 2 * 0 + (1 + 0) ≤ _; decide) (hb hbytes d6) (⟨rfl, hx2.2.2.1, hx.2.2.2.2.1.cd, s1.there X2.warmed.alike hh2, hz⟩)
  obtain ⟨rfl, q4⟩ := E4
  have c5 : Steps p.tables e below (s₁.setTop (entryFrame m #[.ref x] 1)) (T4.setTop (mkF m 10 #[.val (.ref x)] [.int (Int32.ofNat V.slots.size >>> (cd &&& 31))])) := Steps.trans g4 (by
    refine ishr X4.here hexec rfl (hb hbytes d9) rfl ?_
    exact Steps.refl _)
  rw [hx.2.2.2.2.1.len v31] at c5
  exact ⟨T4, some (.int (Int32.ofNat n)), _, _, _, X4, rfl, rfl, rfl, (fun h => by cases h), ⟨rfl, q4.trans hh2⟩, fun fs hl => c5.trans (X4.ireturnOut hexec hret rfl (Or.inl rfl) (hb hbytes d10) hl)⟩
theorem pays {l : Launch} {R : Room} {p : Program} {e : Env} {below : List Frame} {s : State} {sargs : Array Value} {len W : Nat} (x t : Addr) (V : Cell) (cd : Int32) (n : Nat) (f : Nat → Int32) (z : Int32) (htab : tab.before sargs s = true) (hfr : 2 ≤ R.frames) (hlo : W + 25 ≤ R.locals) :
    Back l R p e below s sargs yN len W (fun A₁ a₁ => A₁.cells + 0 ≤ R.cells ∧ A₁.slots + 0 ≤ R.slots ∧ P x t V cd n f z a₁ A₁.U) (fun A₁ _ v₁ B₁ => E n v₁ A₁.U B₁.U ∧ B₁.locs = A₁.locs ++ [] ∧ B₁.cells = A₁.cells + 0 ∧ B₁.slots = A₁.slots + 0) :=
  (law l x t V cd n f z).pays htab hfr (by omega)
end Len
namespace IsL
def yN : MethodName := ⟨"java/lang/String", "isLatin1", "()Z"⟩
abbrev yB : ByteArray := jdk_42_method_154_code
theorem d0 : decode yB 0 = .ok (.getstatic 38, 3) := by decide +kernel
theorem d3 : decode yB 3 = .ok (.ifCond (.eq) 14, 3) := by decide +kernel
theorem d6 : decode yB 6 = .ok (.aload_n 0, 1) := by decide +kernel
theorem d7 : decode yB 7 = .ok (.getfield 15, 3) := by decide +kernel
theorem d10 : decode yB 10 = .ok (.ifCond (.ne) 7, 3) := by decide +kernel
theorem d13 : decode yB 13 = .ok (.iconst 1, 1) := by decide +kernel
theorem d14 : decode yB 14 = .ok (.goto 4, 3) := by decide +kernel
theorem d17 : decode yB 17 = .ok (.iconst 0, 1) := by decide +kernel
theorem d18 : decode yB 18 = .ok (.ireturn, 1) := by decide +kernel
def site : List Cond := [.fieldLink "java/lang/String" 38 "java/lang/String" "COMPACT_STRINGS" "Z", .fieldLink "java/lang/String" 15 "java/lang/String" "coder" "B"]
def tab : Cond := tabOf yN yB 1 (some .boolean) site
def P (x : Addr) (cd z : Int32) (args : Array Value) (s : State) : Prop := args = #[.ref x] ∧ Has x "java/lang/String" "coder" "B" (.int cd) s ∧ (cd = 0 ∨ cd = 1) ∧ StaticIs s "java/lang/String" "COMPACT_STRINGS" "Z" (.int z) ∧ ¬ z = 0
def E (cd : Int32) (r : Option Value) (s u : State) : Prop := XT.PureE (some (.int (1 - cd))) r s u
theorem law (l : Launch) (x : Addr) (cd z : Int32) : Law l yN 1 0 0 0 yB 1 (some .boolean) site (P x cd z) (E cd) [] 0 0 := by
  refine Law.of_walk (plainFor_of_name (by decide +kernel)) (by decide +kernel) (by decide +kernel) (by decide) (fun _ _ h => by rw [h.1]; rfl) (fun _ U U' hal hh h => ⟨h.1, h.2.1.mv hal hh, h.2.2.1, h.2.2.2.1.there hal hh, h.2.2.2.2⟩) (fun r U U' V V' h1 hal h2 h => XT.PureE.mv r U U' V V' h1 hal h2 h) ?_
  intro p e s m args below meth c s₁ X0 hexec hbytes hml hret hlk hnm hown hh0 W hP
  obtain ⟨rfl, hx, hc, s1, hz⟩ := hP
  have c1 : Steps p.tables e below (s₁.setTop (entryFrame m #[.ref x] 1)) (s₁.setTop (mkF m 0 #[.val (.ref x)] [])) := entry rfl
  obtain ⟨T2, X2, q2, st2⟩ := X0.sget hexec hown (wk W (.fieldLink "java/lang/String" 38 "java/lang/String" "COMPACT_STRINGS" "Z")) s1 (fun _ _ h => by rw [hh0]; exact h) (g := (mkF m 0 #[.val (.ref x)] [])) rfl (hb hbytes d0)
  have hh2 := q2.trans hh0
  have c3 : Steps p.tables e below (s₁.setTop (entryFrame m #[.ref x] 1)) (T2.setTop (mkF m 7 #[.val (.ref x)] [.ref x])) := (c1.trans (st2 _ (Steps.refl _))).trans (by
    refine XS.ifNo X2.here hexec rfl (hb hbytes d3) rfl (i0_eq_f hz) ?_
    refine XS.aloadN X2.here hexec rfl (hb hbytes d6) rfl rfl ?_
    exact Steps.refl _)
  obtain ⟨T4, X4, q4, st4⟩ := X2.hget hexec hown (wk W (.fieldLink "java/lang/String" 15 "java/lang/String" "coder" "B")) (hx.mv X2.warmed.alike hh2) (g := (mkF m 7 #[.val (.ref x)] [.ref x])) rfl (rest := []) rfl (hb hbytes d7)
  have c5 : Steps p.tables e below (s₁.setTop (entryFrame m #[.ref x] 1)) (T4.setTop (mkF m 10 #[.val (.ref x)] [.int cd])) := c3.trans (st4 _ (Steps.refl _))
  have c6 : Steps p.tables e below (s₁.setTop (entryFrame m #[.ref x] 1)) (T4.setTop (mkF m 18 #[.val (.ref x)] [.int (1 - cd)])) := by
    rcases hc with rfl | rfl
    · exact c5.trans (by
        refine XS.ifNo X4.here hexec rfl (hb hbytes d10) rfl (i0_ne_f rfl) ?_
        refine iconstV X4.here hexec rfl 1 (hb hbytes d13) (by decide) ?_
        refine XS.goto X4.here hexec rfl (pc0 := 14) rfl (hb hbytes d14) (by decide) rfl ?_
        exact Steps.refl _)
    · exact c5.trans (by
        refine XS.ifYes X4.here hexec rfl (pc0 := 10) rfl (hb hbytes d10) rfl (i0_ne_t (by decide)) (by decide) rfl ?_
        refine iconstV X4.here hexec rfl 0 (hb hbytes d17) (by decide) ?_
        exact Steps.refl _)
  exact ⟨T4, some (.int (1 - cd)), _, _, _, X4, rfl, rfl, rfl, (fun h => by cases h), ⟨rfl, q4.trans hh2⟩, fun fs hl => c6.trans (X4.ireturnOut hexec hret (by rcases hc with rfl | rfl <;> rfl) (Or.inr (Or.inl rfl)) (hb hbytes d18) hl)⟩
end IsL
namespace LChA
def yN : MethodName := ⟨"java/lang/StringLatin1", "charAt", "([BI)C"⟩
abbrev yB : ByteArray := jdk_43_method_2_code
theorem d0 : decode yB 0 = .ok (.iload_n 1, 1) := by decide +kernel
theorem d1 : decode yB 1 = .ok (.aload_n 0, 1) := by decide +kernel
theorem d2 : decode yB 2 = .ok (.arraylength, 1) := by decide +kernel
theorem d3 : decode yB 3 = .ok (.invokestatic 9, 3) := by decide +kernel
theorem d6 : decode yB 6 = .ok (.aload_n 0, 1) := by decide +kernel
theorem d7 : decode yB 7 = .ok (.iload_n 1, 1) := by decide +kernel
theorem d8 : decode yB 8 = .ok (.baload, 1) := by decide +kernel
theorem d9 : decode yB 9 = .ok (.sipush 255, 3) := by decide +kernel
theorem d12 : decode yB 12 = .ok (.iand, 1) := by decide +kernel
theorem d13 : decode yB 13 = .ok (.i2c, 1) := by decide +kernel
theorem d14 : decode yB 14 = .ok (.ireturn, 1) := by decide +kernel
def site : List Cond := [JO.Str_checkIndex.tab] ++ staticW "java/lang/StringLatin1" 9 JO.Str_checkIndex.yN
def tab : Cond := tabOf yN yB 2 (some .char) site
def P (t : Addr) (V : Cell) (i : Nat) (u : Int32) (fm : Value) (args : Array Value) (s : State) : Prop := args = #[.ref t, .int (Int32.ofNat i)] ∧ XT.Arr .byte t V s ∧ V.slots[i]? = some (.int u) ∧ (StaticIs s "jdk/internal/util/Preconditions" "SIOOBE_FORMATTER" "Ljava/util/function/BiFunction;" fm ∧ fm.isRef = true)
def E (u : Int32) (r : Option Value) (s w : State) : Prop := XT.PureE (some (.int (chr8 u))) r s w
theorem law (l : Launch) (t : Addr) (V : Cell) (i : Nat) (u : Int32) (fm : Value) : Law l yN 2 2 2 27 yB 2 (some .char) site (P t V i u fm) (E u) [] 0 0 := by
  refine Law.of_walk (plainFor_of_name (by decide +kernel)) (by decide +kernel) (by decide +kernel) (by decide) (fun _ _ h => by rw [h.1]; rfl) (fun _ U U' hal hh h => ⟨h.1, h.2.1.mv hal hh, h.2.2.1, h.2.2.2.1.there hal hh, h.2.2.2.2⟩) (fun r U U' V V' h1 hal h2 h => XT.PureE.mv r U U' V V' h1 hal h2 h) ?_
  intro p e s m args below meth c s₁ X0 hexec hbytes hml hret hlk hnm hown hh0 W hP
  obtain ⟨rfl, hV, hu, s1, rf⟩ := hP
  have v31 := hV.2.2.2
  have hi : i < V.slots.size := (Array.getElem?_eq_some_iff.mp hu).1
  have c1 : Steps p.tables e below (s₁.setTop (entryFrame m #[.ref t, .int (Int32.ofNat i)] 2)) (s₁.setTop (mkF m 0 #[.val (.ref t), .val (.int (Int32.ofNat i))] [])) := entry rfl
  have c2 : Steps p.tables e below (s₁.setTop (entryFrame m #[.ref t, .int (Int32.ofNat i)] 2)) (s₁.setTop (mkF m 3 #[.val (.ref t), .val (.int (Int32.ofNat i))] [.int (Int32.ofNat V.slots.size), .int (Int32.ofNat i)])) := c1.trans (by
    refine XS.iloadN X0.here hexec rfl (hb hbytes d0) rfl ?_
    refine XS.aloadN X0.here hexec rfl (hb hbytes d1) rfl rfl ?_
    refine X0.alen hexec (hV.mv X0.warmed.alike hh0) rfl rfl (hb hbytes d2) ?_
    exact Steps.refl _)
  obtain ⟨v3, T3, X3, E3, g3⟩ := X0.callS hexec (JO.Str_checkIndex.law l (Int32.ofNat i) (Int32.ofNat V.slots.size) fm) hown (wks W (staticW "java/lang/StringLatin1" 9 JO.Str_checkIndex.yN)) (wk W JO.Str_checkIndex.tab) (W := 0) (Nat.le_of_ble_eq_true rfl) (Nat.le_of_ble_eq_true rfl) (Nat.le_refl _) (Nat.le_refl _) (g := (mkF m 3 #[.val (.ref t), .val (.int (Int32.ofNat i))] [.int (Int32.ofNat V.slots.size), .int (Int32.ofNat i)])) rfl (by rw [hml]; rfl) c2 (argsL := [.int (Int32.ofNat i), .int (Int32.ofNat V.slots.size)]) (rest := []) rfl rfl (by show 2 * 0 + 0 ≤ _; decide) (hb hbytes d3) (⟨rfl, rf, s1.there X0.warmed.alike hh0, Int32.ofNat_not_neg (by omega), lt32 v31 hi⟩)
  obtain ⟨rfl, q3⟩ := E3
  have hh3 := q3.trans hh0
  have c4 : Steps p.tables e below (s₁.setTop (entryFrame m #[.ref t, .int (Int32.ofNat i)] 2)) (T3.setTop (mkF m 14 #[.val (.ref t), .val (.int (Int32.ofNat i))] [.int (chr8 u)])) := Steps.trans g3 (by
    refine XS.aloadN X3.here hexec rfl (hb hbytes d6) rfl rfl ?_
    refine XS.iloadN X3.here hexec rfl (hb hbytes d7) rfl ?_
    refine X3.aget hexec (hV.mv X3.warmed.alike hh3) rfl hu rfl rfl (hb hbytes d8) ?_
    refine sipushV X3.here hexec rfl 255 (hb hbytes d9) (by decide) ?_
    refine XS.iand X3.here hexec rfl (hb hbytes d12) rfl ?_
    refine i2c X3.here hexec rfl (hb hbytes d13) rfl ?_
    exact Steps.refl _)
  exact ⟨T3, some (.int (chr8 u)), _, _, _, X3, rfl, rfl, rfl, (fun h => by cases h), ⟨rfl, hh3⟩, fun fs hl => c4.trans (X3.ireturnOut hexec hret (narrow_c _) (Or.inr (Or.inr (Or.inr (Or.inl rfl)))) (hb hbytes d14) hl)⟩
end LChA
end StrChars
namespace StrChars.Road
open Jvm Sem ClassFile Op Lib Jvm.Stand Jvm.Free Jvm.Free.XT
open Jvm.Lib.Cold (StaticIs)
theorem consq {a : Array Value} {s : State} {c : Jvm.Cond} {L : List Jvm.Cond} (h0 : c.before a s = true) (h : ∀ w ∈ L, w.before a s = true) : ∀ w ∈ c :: L, w.before a s = true := fun w hw => (List.mem_cons.mp hw).elim (fun e => e ▸ h0) (h w)
/-- the words of String.length(), either coding -/
abbrev wordsLen : List Jvm.Cond := [.code Len.yN Len.yB 1 (some .int), .initialized ST, .fieldLink ST 9 ST "value" "[B", .fieldLink ST 38 ST "COMPACT_STRINGS" "Z", .fieldLink ST 15 ST "coder" "B", .code Cdr.yN Cdr.yB 1 (some .byte), .methodLink ST 335 Cdr.yN, .declares Cdr.yN, .selects ST Cdr.yN Cdr.yN, .instanceMethod Cdr.yN]
theorem tabLen_of {a : Array Value} {s : State} (h : ∀ w ∈ wordsLen, w.before a s = true) : Len.tab.before a s = true := by
  have hc : Cdr.tab.before a s = true := unparts (wk h (.code Cdr.yN Cdr.yB 1 (some .byte))) (wks h (.initialized Cdr.yN.cls :: Cdr.site))
  have q := consq hc h
  exact unparts (wk q (.code Len.yN Len.yB 1 (some .int))) (wks q (.initialized Len.yN.cls :: Len.site))
theorem movedLen {Z s : State} {a0 args : Array Value} (hZ : Z.Warmed39 s.vm) (hw : ∀ d ∈ wordsLen, d.before a0 Z = true) : ∀ d ∈ wordsLen, d.before args s = true := fun d hd => by
  have q := hw d hd
  have t : ∀ d ∈ wordsLen, d = .arrayClass .byte ∨ (d.onTables && d.keepsFace) = true := by decide +kernel
  rcases t d hd with rfl | t
  · exact RoadKit.mvA hZ q
  · exact RoadKit.mv hZ q t
/-- the bytes of the chars cs, low before high -/
def wideBytes : List Int32 → List Value
  | [] => []
  | c :: cs => .int (lo8 c) :: .int (hi8 c) :: wideBytes cs
theorem wide_lo (d : Value) : ∀ (cs : List Int32) (j : Nat), j < cs.length → (wideBytes cs).getD (2 * j) d = .int (lo8 (cs.getD j 0))
  | [], j, h => absurd h (Nat.not_lt_zero j)
  | c :: cs, 0, _ => rfl
  | c :: cs, j + 1, h => by
    have q := wide_lo d cs j (by simpa using h)
    rw [show 2 * (j + 1) = 2 * j + 1 + 1 from by omega]
    simpa [wideBytes] using q
theorem wide_hi (d : Value) : ∀ (cs : List Int32) (j : Nat), j < cs.length → (wideBytes cs).getD (2 * j + 1) d = .int (hi8 (cs.getD j 0))
  | [], j, h => absurd h (Nat.not_lt_zero j)
  | c :: cs, 0, _ => rfl
  | c :: cs, j + 1, h => by
    have q := wide_hi d cs j (by simpa using h)
    rw [show 2 * (j + 1) + 1 = 2 * j + 1 + 1 + 1 from by omega]
    simpa [wideBytes] using q
theorem low_at (d : Value) (cs : List Int32) (j : Nat) (h : j < cs.length) : (cs.map fun c => Value.int (lo8 c)).getD j d = .int (lo8 (cs.getD j 0)) := by
  simp [List.getD_eq_getElem?_getD, h]
/-- an array of N2 bytes vs codes the chars cs by the coder cd -/
def CodA (cs : List Int32) (cd N2 : Int32) (vs : List Value) : Prop := (cd = 0 ∧ N2 = Int32.ofNat cs.length ∧ vs = (cs.map fun c => Value.int (lo8 c)) ∧ ∀ c ∈ cs, ¬ 255 < c) ∨ (cd = 1 ∧ N2 = Int32.ofNat (2 * cs.length) ∧ vs = wideBytes cs ∧ ∃ c ∈ cs, 255 < c)
theorem CodA.cod {cs : List Int32} {cd N2 : Int32} {vs : List Value} {V : Cell} (h : CodA cs cd N2 vs) (hn : 2 * cs.length < 2 ^ 31) (hs : V.slots.size = N2.toNatClampNeg) (hv : RoadKit.Has V vs (.int 0)) : Cod cd cs.length (fun j => cs.getD j 0) V := by
  rcases h with ⟨rfl, rfl, rfl, h⟩ | ⟨rfl, rfl, rfl, c, hc, hw⟩
  · rw [n32 (by omega)] at hs
    exact Or.inl ⟨rfl, hs, fun j hj => ⟨by rw [hv j (by omega), low_at _ _ _ hj], by
      have e : cs.getD j 0 = cs[j] := by simp [List.getD_eq_getElem?_getD, hj]
      show ¬ 255 < cs.getD j 0
      rw [e]; exact h _ (List.getElem_mem _)⟩⟩
  · rw [n32 (by omega)] at hs
    obtain ⟨j, hj, rfl⟩ := List.getElem_of_mem hc
    exact Or.inr ⟨rfl, hs, fun j hj => ⟨by rw [hv _ (by omega), wide_lo _ _ _ hj], by rw [hv _ (by omega), wide_hi _ _ _ hj]⟩, j, hj, by
      have e : cs.getD j 0 = cs[j] := by simp [List.getD_eq_getElem?_getD, hj]
      show 255 < cs.getD j 0
      rw [e]; exact hw⟩
/-- an object of exactly java/lang/String, its two fields found: as the laws ask it -/
theorem strObj {Z U : State} {a0 : Array Value} {kI : Nat} (wi : (Jvm.Cond.instantiable ST kI).before a0 Z = true) (al : Z.vm.Alike U.vm) {x : Addr} {v0 c0 : Value} (E : RoadKit.Exa Z U.heap x ST) (V : RoadKit.Fld Z U.heap x ST "value" "[B" v0) (C : RoadKit.Fld Z U.heap x ST "coder" "B" c0) :
    ∃ (D : Cell) (fV fC : Field), Blank ST x D U ∧ Found ST "value" "[B" fV U ∧ Found ST "coder" "B" fC U ∧ D.slots[fV.slot]? = some v0 ∧ D.slots[fC.slot]? = some c0 ∧ RoadKit.slotOf Z ST "value" "[B" = fV.slot ∧ RoadKit.slotOf Z ST "coder" "B" = fC.slot := by
  obtain ⟨D, cfV, kV, iV, fV, hD, gV, stV, knV, obV, asV, slV⟩ := V
  obtain ⟨D', cfC, kC, iC, fC, hD', gC, stC, -, -, asC, slC⟩ := C
  cases hD.symm.trans hD'
  obtain ⟨D2, kD, e1, e2, e3, e4, e5⟩ := E
  cases hD.symm.trans e1
  obtain ⟨c2, k2, i1, i2, i3, -⟩ := Cond.instantiable_spec wi
  cases e2.symm.trans i1
  cases e3.symm.trans i2
  obtain ⟨kU, u1, u2⟩ := al.2.2 _ _ e3
  exact ⟨D, fV, fC, ⟨hD, ⟨knV, fun q hq => by rw [hq] at obV; cases obV⟩, by rw [al.findClass]; exact e2, kU, u1, by rw [u2]; exact i3, by rw [u2]; exact e5 i3⟩, ⟨SBG.found_only al ⟨cfV, kV, iV, gV⟩, stV⟩, ⟨SBG.found_only al ⟨cfC, kC, iC, gC⟩, stC⟩, slV, slC, by simp [RoadKit.slotOf, gV], by simp [RoadKit.slotOf, gC]⟩
theorem sta_is {Z U : State} (al : Z.vm.Alike U.vm) {C n d : String} {v : Value} (S : RoadKit.Sta Z U.heap C n d v) : StaticIs U C n d v := by
  obtain ⟨cfS, iS, kS, fS, st, cS, t1, t2, t3, t4, t5, t6, t7⟩ := S
  exact StaticIs.there (s := { Z with heap := U.heap }) ⟨cfS, iS, kS, fS, st, cS, t1, t2, t3, t4, t5, (fun q => by rw [q] at t6; cases t6), t7⟩ al rfl
/-- **length() OF SUCH A STRING** -/
theorem lenW {p : Program} {l : Launch} {e : Env} {R : Room} {s : State} {args : Array Value} {below : List Frame} {len W : Nat} {Z : State} {a0 : Array Value} {h : Heap} (hZ : Z.Warmed39 s.vm) (hw : ∀ d ∈ wordsLen, d.before a0 Z = true) {kI : Nat} (wi : (Jvm.Cond.instantiable ST kI).before a0 Z = true)
    {x t : Addr} {kb : ClassId} {cs : List Int32} {cd N2 z : Int32} {vs : List Value} (E : RoadKit.Exa Z h x ST) (V : RoadKit.Fld Z h x ST "value" "[B" (.ref t)) (C : RoadKit.Fld Z h x ST "coder" "B" (.int cd)) (K : RoadKit.Arv Z h t kb .byte N2 vs (.int 0)) (hc : CodA cs cd N2 vs) (hb : ∀ c ∈ cs, ¬ c < 0 ∧ ¬ (65535 : Int32) < c)
    (S : RoadKit.Sta Z h ST "COMPACT_STRINGS" "Z" (.int z)) (hz : ¬ z = 0) (l2 : cs.length ≤ 4000) (hfr : 2 ≤ R.frames) (hlo : W + 25 ≤ R.locals) :
    Back l R p e below s args (⟨"java/lang/String", "length", "()I"⟩ : MethodName) len W (fun P a => a = #[.ref x] ∧ P.U.heap = h ∧ P.cells + 0 ≤ R.cells ∧ P.slots + 0 ≤ R.slots)
      (fun P _ v B => ∃ L, (v = some (.int (Int32.ofNat cs.length)) ∧ L = [] ∧ B.U.heap = h) ∧ B.locs = P.locs ++ L ∧ B.cells = P.cells + 0 ∧ B.slots = P.slots + 0) := by
  obtain ⟨A, K1, K2, K3, K4, K5, K6⟩ := K
  have hcod := hc.cod (by omega) K3 K5
  intro m meth c P g ig mk a X hg hsize hdg hW hn hp'
  obtain ⟨rfl, rfl, r1, r2⟩ := hp'
  have al : Z.vm.Alike P.U.vm := hZ.alike.trans X.warmed.alike
  obtain ⟨D, fV, fC, hB, F1, F2, g1, g2, -, -⟩ := strObj wi al E V C
  have hx : Txt x t A cd cs.length (fun j => cs.getD j 0) P.U := ⟨⟨_, hB.2.2.1, D, hB.1, rfl, by cases q : D.vm <;> first | rfl | exact absurd q (hB.2.1.2 _)⟩, Has.of hB F1 g1, Has.of hB F2 g2, ⟨K1.1, State.isArrayOf_alike al K1.2.1, K1.2.2, by rcases hcod with ⟨-, q, -⟩ | ⟨-, q, -⟩ <;> omega⟩, hcod, fun j hj => by
    have e : cs.getD j 0 = cs[j] := by simp [List.getD_eq_getElem?_getD, hj]
    show ¬ cs.getD j 0 < 0 ∧ ¬ 65535 < cs.getD j 0
    rw [e]; exact hb _ (List.getElem_mem _)⟩
  obtain ⟨v, B, X', ⟨⟨hv, hh⟩, hl, hk, hs⟩, st⟩ := Len.pays x t A cd cs.length (fun j => cs.getD j 0) z (tabLen_of (movedLen hZ hw)) hfr hlo m meth c P g ig mk _ X hg hsize hdg hW hn ⟨r1, r2, rfl, hx, sta_is al S, hz⟩
  exact ⟨v, B, X', ⟨[], ⟨hv, rfl, hh⟩, hl, hk, hs⟩, st⟩
end StrChars.Road
namespace StrChars
open Jvm Sem ClassFile Op Lib Jvm.Stand Jvm.Free.XT Jvm.Free.ALB Jvm.Free.JM Jvm.Free
open Jvm.Lib.Cold (StaticIs)
namespace Emp
def yN : MethodName := ⟨"java/lang/String", "isEmpty", "()Z"⟩
abbrev yB : ByteArray := jdk_42_method_55_code
theorem d0 : decode yB 0 = .ok (.aload_n 0, 1) := by decide +kernel
theorem d1 : decode yB 1 = .ok (.getfield 9, 3) := by decide +kernel
theorem d4 : decode yB 4 = .ok (.arraylength, 1) := by decide +kernel
theorem d5 : decode yB 5 = .ok (.ifCond (.ne) 7, 3) := by decide +kernel
theorem d8 : decode yB 8 = .ok (.iconst 1, 1) := by decide +kernel
theorem d9 : decode yB 9 = .ok (.goto 4, 3) := by decide +kernel
theorem d12 : decode yB 12 = .ok (.iconst 0, 1) := by decide +kernel
theorem d13 : decode yB 13 = .ok (.ireturn, 1) := by decide +kernel
def site : List Cond := [.fieldLink "java/lang/String" 9 "java/lang/String" "value" "[B"]
def tab : Cond := tabOf yN yB 1 (some .boolean) site
def P (x t : Addr) (V : Cell) (cd : Int32) (n : Nat) (f : Nat → Int32) (args : Array Value) (s : State) : Prop := args = #[.ref x] ∧ Txt x t V cd n f s
def E (n : Nat) (r : Option Value) (s u : State) : Prop := XT.PureE (some (.int (if n = 0 then 1 else 0))) r s u
/-- isEmpty() of a String of n chars -/
theorem law (l : Launch) (x t : Addr) (V : Cell) (cd : Int32) (n : Nat) (f : Nat → Int32) : Law l yN 1 0 0 0 yB 1 (some .boolean) site (P x t V cd n f) (E n) [] 0 0 := by
  refine Law.of_walk (plainFor_of_name (by decide +kernel)) (by decide +kernel) (by decide +kernel) (by decide) (fun _ _ h => by rw [h.1]; rfl) (fun _ U U' hal hh h => ⟨h.1, h.2.mv hal hh⟩) (fun r U U' V V' h1 hal h2 h => XT.PureE.mv r U U' V V' h1 hal h2 h) ?_
  intro p e s m args below meth c s₁ X0 hexec hbytes hml hret hlk hnm hown hh0 W hP
  obtain ⟨rfl, hx⟩ := hP
  have v31 := hx.2.2.2.1.2.2.2
  have c1 : Steps p.tables e below (s₁.setTop (entryFrame m #[.ref x] 1)) (s₁.setTop (mkF m 1 #[.val (.ref x)] [.ref x])) := Steps.trans (entry rfl) (by
    show Steps p.tables e below (s₁.setTop (mkF m 0 #[.val (.ref x)] [])) _
    refine XS.aloadN X0.here hexec rfl (hb hbytes d0) rfl rfl ?_
    exact Steps.refl _)
  obtain ⟨T2, X2, q2, st2⟩ := X0.hget hexec hown (wk W (.fieldLink "java/lang/String" 9 "java/lang/String" "value" "[B")) (hx.mv X0.warmed.alike hh0).2.1 (g := (mkF m 1 #[.val (.ref x)] [.ref x])) rfl (rest := []) rfl (hb hbytes d1)
  have hh2 := q2.trans hh0
  have hx2 := hx.mv X2.warmed.alike hh2
  have c3 : Steps p.tables e below (s₁.setTop (entryFrame m #[.ref x] 1)) (T2.setTop (mkF m 5 #[.val (.ref x)] [.int (Int32.ofNat V.slots.size)])) := (c1.trans (st2 _ (Steps.refl _))).trans (by
    refine X2.alen hexec hx2.2.2.2.1 rfl rfl (hb hbytes d4) ?_
    exact Steps.refl _)
  have hz : V.slots.size = 0 ↔ n = 0 := by
    rcases hx.2.2.2.2.1 with ⟨-, q, -⟩ | ⟨-, q, -⟩ <;> omega
  by_cases h0 : n = 0
  · have c4 : Steps p.tables e below (s₁.setTop (entryFrame m #[.ref x] 1)) (T2.setTop (mkF m 13 #[.val (.ref x)] [.int 1])) := c3.trans (by
      refine XS.ifNo X2.here hexec rfl (hb hbytes d5) rfl (i0_ne_f (by rw [hz.mpr h0]; rfl)) ?_
      refine iconstV X2.here hexec rfl 1 (hb hbytes d8) (by decide) ?_
      refine XS.goto X2.here hexec rfl (pc0 := 9) rfl (hb hbytes d9) (by decide) rfl ?_
      exact Steps.refl _)
    exact ⟨T2, some (.int 1), _, _, _, X2, rfl, rfl, rfl, (fun h => by cases h), ⟨by rw [if_pos h0], hh2⟩, fun fs hl => c4.trans (X2.ireturnOut hexec hret rfl (Or.inr (Or.inl rfl)) (hb hbytes d13) hl)⟩
  · have c4 : Steps p.tables e below (s₁.setTop (entryFrame m #[.ref x] 1)) (T2.setTop (mkF m 13 #[.val (.ref x)] [.int 0])) := c3.trans (by
      refine XS.ifYes X2.here hexec rfl (pc0 := 5) rfl (hb hbytes d5) rfl (i0_ne_t (nz32 v31 (by omega))) (by decide) rfl ?_
      refine iconstV X2.here hexec rfl 0 (hb hbytes d12) (by decide) ?_
      exact Steps.refl _)
    exact ⟨T2, some (.int 0), _, _, _, X2, rfl, rfl, rfl, (fun h => by cases h), ⟨by rw [if_neg h0], hh2⟩, fun fs hl => c4.trans (X2.ireturnOut hexec hret rfl (Or.inr (Or.inl rfl)) (hb hbytes d13) hl)⟩
theorem pays {l : Launch} {R : Room} {p : Program} {e : Env} {below : List Frame} {s : State} {sargs : Array Value} {len W : Nat} (x t : Addr) (V : Cell) (cd : Int32) (n : Nat) (f : Nat → Int32) (htab : tab.before sargs s = true) (hfr : 1 ≤ R.frames) (hlo : W + 12 ≤ R.locals) :
    Back l R p e below s sargs yN len W (fun A₁ a₁ => A₁.cells + 0 ≤ R.cells ∧ A₁.slots + 0 ≤ R.slots ∧ P x t V cd n f a₁ A₁.U) (fun A₁ _ v₁ B₁ => E n v₁ A₁.U B₁.U ∧ B₁.locs = A₁.locs ++ [] ∧ B₁.cells = A₁.cells + 0 ∧ B₁.slots = A₁.slots + 0) :=
  (law l x t V cd n f).pays htab hfr (by omega)
end Emp
end StrChars
namespace StrChars.Road
open Jvm Sem ClassFile Op Lib Jvm.Stand Jvm.Free Jvm.Free.XT
open Jvm.Lib.Cold (StaticIs)
/-- the words of String.isEmpty() -/
abbrev wordsEmp : List Jvm.Cond := [.code Emp.yN Emp.yB 1 (some .boolean), .initialized ST, .fieldLink ST 9 ST "value" "[B"]
theorem tabEmp_of {a : Array Value} {s : State} (h : ∀ w ∈ wordsEmp, w.before a s = true) : Emp.tab.before a s = true := unparts (wk h (.code Emp.yN Emp.yB 1 (some .boolean))) (wks h (.initialized Emp.yN.cls :: Emp.site))
theorem movedEmp {Z s : State} {a0 args : Array Value} (hZ : Z.Warmed39 s.vm) (hw : ∀ d ∈ wordsEmp, d.before a0 Z = true) : ∀ d ∈ wordsEmp, d.before args s = true := fun d hd => by
  have t : ∀ d ∈ wordsEmp, (d.onTables && d.keepsFace) = true := by decide +kernel
  exact RoadKit.mv hZ (hw d hd) (t d hd)
/-- the road's facts of a String, as the laws ask it -/
theorem txt_of {Z U : State} {a0 : Array Value} {kI : Nat} (wi : (Jvm.Cond.instantiable ST kI).before a0 Z = true) (al : Z.vm.Alike U.vm) {x t : Addr} {kb : ClassId} {cs : List Int32} {cd N2 : Int32} {vs : List Value} (E : RoadKit.Exa Z U.heap x ST) (V : RoadKit.Fld Z U.heap x ST "value" "[B" (.ref t)) (C : RoadKit.Fld Z U.heap x ST "coder" "B" (.int cd)) (K : RoadKit.Arv Z U.heap t kb .byte N2 vs (.int 0)) (hc : CodA cs cd N2 vs) (hb : ∀ c ∈ cs, ¬ c < 0 ∧ ¬ (65535 : Int32) < c) (l2 : cs.length ≤ 4000) :
    ∃ A, Txt x t A cd cs.length (fun j => cs.getD j 0) U := by
  obtain ⟨A, K1, K2, K3, K4, K5, K6⟩ := K
  have hcod := hc.cod (by omega) K3 K5
  obtain ⟨D, fV, fC, hB, F1, F2, g1, g2, -, -⟩ := strObj wi al E V C
  exact ⟨A, ⟨_, hB.2.2.1, D, hB.1, rfl, by cases q : D.vm <;> first | rfl | exact absurd q (hB.2.1.2 _)⟩, Has.of hB F1 g1, Has.of hB F2 g2, ⟨K1.1, State.isArrayOf_alike al K1.2.1, K1.2.2, by rcases hcod with ⟨-, q, -⟩ | ⟨-, q, -⟩ <;> omega⟩, hcod, fun j hj => by
    have e : cs.getD j 0 = cs[j] := by simp [List.getD_eq_getElem?_getD, hj]
    show ¬ cs.getD j 0 < 0 ∧ ¬ 65535 < cs.getD j 0
    rw [e]; exact hb _ (List.getElem_mem _)⟩
/-- **isEmpty() OF SUCH A STRING** -/
theorem empW {p : Program} {l : Launch} {e : Env} {R : Room} {s : State} {args : Array Value} {below : List Frame} {len W : Nat} {Z : State} {a0 : Array Value} {h : Heap} (hZ : Z.Warmed39 s.vm) (hw : ∀ d ∈ wordsEmp, d.before a0 Z = true) {kI : Nat} (wi : (Jvm.Cond.instantiable ST kI).before a0 Z = true)
    {x t : Addr} {kb : ClassId} {cs : List Int32} {cd N2 : Int32} {vs : List Value} (E : RoadKit.Exa Z h x ST) (V : RoadKit.Fld Z h x ST "value" "[B" (.ref t)) (C : RoadKit.Fld Z h x ST "coder" "B" (.int cd)) (K : RoadKit.Arv Z h t kb .byte N2 vs (.int 0)) (hc : CodA cs cd N2 vs) (hb : ∀ c ∈ cs, ¬ c < 0 ∧ ¬ (65535 : Int32) < c) (l2 : cs.length ≤ 4000) (hfr : 1 ≤ R.frames) (hlo : W + 12 ≤ R.locals) :
    Back l R p e below s args (⟨"java/lang/String", "isEmpty", "()Z"⟩ : MethodName) len W (fun P a => a = #[.ref x] ∧ P.U.heap = h ∧ P.cells + 0 ≤ R.cells ∧ P.slots + 0 ≤ R.slots)
      (fun P _ v B => ∃ L, (v = some (.int (if cs.length = 0 then 1 else 0)) ∧ L = [] ∧ B.U.heap = h) ∧ B.locs = P.locs ++ L ∧ B.cells = P.cells + 0 ∧ B.slots = P.slots + 0) := by
  intro m meth c P g ig mk a X hg hsize hdg hW hn hp'
  obtain ⟨rfl, rfl, r1, r2⟩ := hp'
  have al : Z.vm.Alike P.U.vm := hZ.alike.trans X.warmed.alike
  obtain ⟨A, hx⟩ := txt_of wi al E V C K hc hb l2
  obtain ⟨v, B, X', ⟨⟨hv, hh⟩, hl, hk, hs⟩, st⟩ := Emp.pays x t A cd cs.length (fun j => cs.getD j 0) (tabEmp_of (movedEmp hZ hw)) hfr hlo m meth c P g ig mk _ X hg hsize hdg hW hn ⟨r1, r2, rfl, hx⟩
  exact ⟨v, B, X', ⟨[], ⟨hv, rfl, hh⟩, hl, hk, hs⟩, st⟩
end StrChars.Road
namespace StrChars
open Jvm Sem ClassFile Op Lib Jvm.Stand Jvm.Free.XT Jvm.Free.ALB Jvm.Free.JM Jvm.Free
open Jvm.Lib.Cold (StaticIs)
namespace ChN
def yN : MethodName := ⟨"java/lang/String", "charAt", "(I)C"⟩
abbrev yB : ByteArray := jdk_42_method_56_code
theorem d0 : decode yB 0 = .ok (.aload_n 0, 1) := by decide +kernel
theorem d1 : decode yB 1 = .ok (.invokevirtual 492, 3) := by decide +kernel
theorem d4 : decode yB 4 = .ok (.ifCond (.eq) 12, 3) := by decide +kernel
theorem d7 : decode yB 7 = .ok (.aload_n 0, 1) := by decide +kernel
theorem d8 : decode yB 8 = .ok (.getfield 9, 3) := by decide +kernel
theorem d11 : decode yB 11 = .ok (.iload_n 1, 1) := by decide +kernel
theorem d12 : decode yB 12 = .ok (.invokestatic 495, 3) := by decide +kernel
theorem d15 : decode yB 15 = .ok (.ireturn, 1) := by decide +kernel
def site : List Cond := [.fieldLink "java/lang/String" 9 "java/lang/String" "value" "[B", IsL.tab, LChA.tab] ++ virtW "java/lang/String" 492 "java/lang/String" IsL.yN IsL.yN ++ staticW "java/lang/String" 495 LChA.yN
def tab : Cond := tabOf yN yB 2 (some .char) site
def P (x t : Addr) (V : Cell) (n : Nat) (f : Nat → Int32) (z : Int32) (fm : Value) (i : Nat) (args : Array Value) (s : State) : Prop := args = #[.ref x, .int (Int32.ofNat i)] ∧ Txt x t V 0 n f s ∧ i < n ∧ StaticIs s "java/lang/String" "COMPACT_STRINGS" "Z" (.int z) ∧ ¬ z = 0 ∧ StaticIs s "jdk/internal/util/Preconditions" "SIOOBE_FORMATTER" "Ljava/util/function/BiFunction;" fm ∧ fm.isRef = true
def E (f : Nat → Int32) (i : Nat) (r : Option Value) (s u : State) : Prop := XT.PureE (some (.int (f i))) r s u
/-- charAt(i) of a Latin-1 String of n chars, i < n: f i -/
theorem law (l : Launch) (x t : Addr) (V : Cell) (n : Nat) (f : Nat → Int32) (z : Int32) (fm : Value) (i : Nat) : Law l yN 2 1 3 40 yB 2 (some .char) site (P x t V n f z fm i) (E f i) [] 0 0 := by
  refine Law.of_walk (plainFor_of_name (by decide +kernel)) (by decide +kernel) (by decide +kernel) (by decide) (fun _ _ h => by rw [h.1]; rfl) (fun _ U U' hal hh h => ⟨h.1, h.2.1.mv hal hh, h.2.2.1, h.2.2.2.1.there hal hh, h.2.2.2.2.1, h.2.2.2.2.2.1.there hal hh, h.2.2.2.2.2.2⟩) (fun r U U' V V' h1 hal h2 h => XT.PureE.mv r U U' V V' h1 hal h2 h) ?_
  intro p e s m args below meth c s₁ X0 hexec hbytes hml hret hlk hnm hown hh0 W hP
  obtain ⟨rfl, hx, hi, s1, hz, s3, rf⟩ := hP
  have v31 := hx.2.2.2.1.2.2.2
  have hr := hx.2.2.2.2.2 i hi
  have hx0 := hx.mv X0.warmed.alike hh0
  have c1 : Steps p.tables e below (s₁.setTop (entryFrame m #[.ref x, .int (Int32.ofNat i)] 2)) (s₁.setTop (mkF m 1 #[.val (.ref x), .val (.int (Int32.ofNat i))] [.ref x])) := Steps.trans (entry rfl) (by
    show Steps p.tables e below (s₁.setTop (mkF m 0 #[.val (.ref x), .val (.int (Int32.ofNat i))] [])) _
    refine XS.aloadN X0.here hexec rfl (hb hbytes d0) rfl rfl ?_
    exact Steps.refl _)
  obtain ⟨v2, T2, X2, E2, g2⟩ := X0.callV hexec (IsL.law l x 0 z) hown (wks W (virtW "java/lang/String" 492 "java/lang/String" IsL.yN IsL.yN)) rfl (by decide) (wk W IsL.tab) (W := 0) (Nat.le_of_ble_eq_true rfl) (Nat.le_of_ble_eq_true rfl) (Nat.le_refl _) (Nat.le_refl _) (hx0.1.fc X0.warmed.alike) hx0.1.is (g := (mkF m 1 #[.val (.ref x), .val (.int (Int32.ofNat i))] [.ref x])) rfl (by rw [hml]; rfl) c1 (argsL := []) (rest := []) rfl rfl (by show 2 * 0 + 0 ≤ _; decide) (hb hbytes d1) (⟨rfl, hx0.2.2.1, hx.2.2.2.2.1.cd, s1.there X0.warmed.alike hh0, hz⟩)
  obtain ⟨rfl, q2⟩ := E2
  have hh2 := q2.trans hh0
  have hx2 := hx.mv X2.warmed.alike hh2
  obtain ⟨-, k1, k2⟩ | ⟨k0, -⟩ := hx.2.2.2.2.1
  · have c3 : Steps p.tables e below (s₁.setTop (entryFrame m #[.ref x, .int (Int32.ofNat i)] 2)) (T2.setTop (mkF m 8 #[.val (.ref x), .val (.int (Int32.ofNat i))] [.ref x])) := Steps.trans g2 (by
      refine XS.ifNo X2.here hexec rfl (hb hbytes d4) rfl (i0_eq_f (by decide)) ?_
      refine XS.aloadN X2.here hexec rfl (hb hbytes d7) rfl rfl ?_
      exact Steps.refl _)
    obtain ⟨T4, X4, q4, st4⟩ := X2.hget hexec hown (wk W (.fieldLink "java/lang/String" 9 "java/lang/String" "value" "[B")) hx2.2.1 (g := (mkF m 8 #[.val (.ref x), .val (.int (Int32.ofNat i))] [.ref x])) rfl (rest := []) rfl (hb hbytes d8)
    have hh4 := q4.trans hh2
    have c5 : Steps p.tables e below (s₁.setTop (entryFrame m #[.ref x, .int (Int32.ofNat i)] 2)) (T4.setTop (mkF m 12 #[.val (.ref x), .val (.int (Int32.ofNat i))] [.int (Int32.ofNat i), .ref t])) := (c3.trans (st4 _ (Steps.refl _))).trans (by
      refine XS.iloadN X4.here hexec rfl (hb hbytes d11) rfl ?_
      exact Steps.refl _)
    obtain ⟨v6, T6, X6, E6, g6⟩ := X4.callS hexec (LChA.law l t V i (lo8 (f i)) fm) hown (wks W (staticW "java/lang/String" 495 LChA.yN)) (wk W LChA.tab) (W := 0) (Nat.le_of_ble_eq_true rfl) (Nat.le_of_ble_eq_true rfl) (Nat.le_refl _) (Nat.le_refl _) (g := (mkF m 12 #[.val (.ref x), .val (.int (Int32.ofNat i))] [.int (Int32.ofNat i), .ref t])) rfl (by rw [hml]; rfl) c5 (argsL := [.ref t, .int (Int32.ofNat i)]) (rest := []) rfl rfl (by show 2 * 0 + 0 ≤ _; decide) (hb hbytes d12) (⟨rfl, hx.2.2.2.1.mv X4.warmed.alike hh4, (k2 i hi).1, s3.there X4.warmed.alike hh4, rf⟩)
    obtain ⟨rfl, q6⟩ := E6
    rw [chr8_lo8 hr.1 (k2 i hi).2] at g6
    exact ⟨T6, some (.int (f i)), _, _, _, X6, rfl, rfl, rfl, (fun h => by cases h), ⟨rfl, q6.trans hh4⟩, fun fs hl => Steps.trans g6 (X6.ireturnOut hexec hret (narrow_ch hr.1 hr.2) (Or.inr (Or.inr (Or.inr (Or.inl rfl)))) (hb hbytes d15) hl)⟩
  · exact absurd k0 (by decide)
theorem pays {l : Launch} {R : Room} {p : Program} {e : Env} {below : List Frame} {s : State} {sargs : Array Value} {len W : Nat} (x t : Addr) (V : Cell) (n : Nat) (f : Nat → Int32) (z : Int32) (fm : Value) (i : Nat) (htab : tab.before sargs s = true) (hfr : 4 ≤ R.frames) (hlo : W + 53 ≤ R.locals) :
    Back l R p e below s sargs yN len W (fun A₁ a₁ => A₁.cells + 0 ≤ R.cells ∧ A₁.slots + 0 ≤ R.slots ∧ P x t V n f z fm i a₁ A₁.U) (fun A₁ _ v₁ B₁ => E f i v₁ A₁.U B₁.U ∧ B₁.locs = A₁.locs ++ [] ∧ B₁.cells = A₁.cells + 0 ∧ B₁.slots = A₁.slots + 0) :=
  (law l x t V n f z fm i).pays htab hfr (by omega)
end ChN
end StrChars
namespace StrChars.Road
open Jvm Sem ClassFile Op Lib Jvm.Stand Jvm.Free Jvm.Free.XT
open Jvm.Lib.Cold (StaticIs)
/-- the words of String.charAt(int), the Latin-1 road alone -/
abbrev wordsChN : List Jvm.Cond := [.code ChN.yN ChN.yB 2 (some .char), .initialized ST, .fieldLink ST 9 ST "value" "[B", .fieldLink ST 38 ST "COMPACT_STRINGS" "Z", .fieldLink ST 15 ST "coder" "B", .code IsL.yN IsL.yB 1 (some .boolean), .methodLink ST 492 IsL.yN, .declares IsL.yN, .selects ST IsL.yN IsL.yN, .instanceMethod IsL.yN,
  .methodLink ST 495 LChA.yN, .static LChA.yN, .code LChA.yN LChA.yB 2 (some .char), .initialized "java/lang/StringLatin1", .methodLink "java/lang/StringLatin1" 9 JO.Str_checkIndex.yN, .static JO.Str_checkIndex.yN, .code JO.Str_checkIndex.yN JO.Str_checkIndex.yB 2 none,
  .fieldLink ST 1053 "jdk/internal/util/Preconditions" "SIOOBE_FORMATTER" "Ljava/util/function/BiFunction;", .methodLink ST 1059 JC.PreCheck.yN, .static JC.PreCheck.yN, .code JC.PreCheck.yN JC.PreCheck.yB 3 (some .int), .initialized "jdk/internal/util/Preconditions"]
theorem tabChN_of {a : Array Value} {s : State} (h : ∀ w ∈ wordsChN, w.before a s = true) : ChN.tab.before a s = true := by
  have hp : JC.PreCheck.tab.before a s = true := unparts (wk h (.code JC.PreCheck.yN JC.PreCheck.yB 3 (some .int))) (wks h (.initialized JC.PreCheck.yN.cls :: JC.PreCheck.site))
  have qk := consq hp h
  have hk : JO.Str_checkIndex.tab.before a s = true := unparts (wk qk (.code JO.Str_checkIndex.yN JO.Str_checkIndex.yB 2 none)) (wks qk (.initialized JO.Str_checkIndex.yN.cls :: JO.Str_checkIndex.site))
  have ql := consq hk h
  have hl : LChA.tab.before a s = true := unparts (wk ql (.code LChA.yN LChA.yB 2 (some .char))) (wks ql (.initialized LChA.yN.cls :: LChA.site))
  have hi : IsL.tab.before a s = true := unparts (wk h (.code IsL.yN IsL.yB 1 (some .boolean))) (wks h (.initialized IsL.yN.cls :: IsL.site))
  have q := consq hi (consq hl h)
  exact unparts (wk q (.code ChN.yN ChN.yB 2 (some .char))) (wks q (.initialized ChN.yN.cls :: ChN.site))
theorem movedChN {Z s : State} {a0 args : Array Value} (hZ : Z.Warmed39 s.vm) (hw : ∀ d ∈ wordsChN, d.before a0 Z = true) : ∀ d ∈ wordsChN, d.before args s = true := fun d hd => by
  have t : ∀ d ∈ wordsChN, (d.onTables && d.keepsFace) = true := by decide +kernel
  exact RoadKit.mv hZ (hw d hd) (t d hd)
/-- **charAt(i) OF A LATIN-1 STRING**, i < n: the char -/
theorem chN {p : Program} {l : Launch} {e : Env} {R : Room} {s : State} {args : Array Value} {below : List Frame} {len W : Nat} {Z : State} {a0 : Array Value} {h : Heap} (hZ : Z.Warmed39 s.vm) (hw : ∀ d ∈ wordsChN, d.before a0 Z = true) {kI : Nat} (wi : (Jvm.Cond.instantiable ST kI).before a0 Z = true)
    {x t : Addr} {kb : ClassId} {cs : List Int32} {N2 z : Int32} {vs : List Value} {fm : Value} {i : Nat} {j : Int32} (E : RoadKit.Exa Z h x ST) (V : RoadKit.Fld Z h x ST "value" "[B" (.ref t)) (C : RoadKit.Fld Z h x ST "coder" "B" (.int 0)) (K : RoadKit.Arv Z h t kb .byte N2 vs (.int 0)) (hc : CodA cs 0 N2 vs) (hb : ∀ c ∈ cs, ¬ c < 0 ∧ ¬ (65535 : Int32) < c)
    (S : RoadKit.Sta Z h ST "COMPACT_STRINGS" "Z" (.int z)) (hz : ¬ z = 0) (F : RoadKit.Sta Z h "jdk/internal/util/Preconditions" "SIOOBE_FORMATTER" "Ljava/util/function/BiFunction;" fm) (rf : fm.isRef = true) (l2 : cs.length ≤ 4000) (hi : i < cs.length) (hj : j = Int32.ofNat i) (hfr : 4 ≤ R.frames) (hlo : W + 53 ≤ R.locals) :
    Back l R p e below s args (⟨"java/lang/String", "charAt", "(I)C"⟩ : MethodName) len W (fun P a => a = #[.ref x, .int j] ∧ P.U.heap = h ∧ P.cells + 0 ≤ R.cells ∧ P.slots + 0 ≤ R.slots)
      (fun P _ v B => ∃ L, (v = some (.int (cs.getD i 0)) ∧ L = [] ∧ B.U.heap = h) ∧ B.locs = P.locs ++ L ∧ B.cells = P.cells + 0 ∧ B.slots = P.slots + 0) := by
  subst hj
  intro m meth c P g ig mk a X hg hsize hdg hW hn hp'
  obtain ⟨rfl, rfl, r1, r2⟩ := hp'
  have al : Z.vm.Alike P.U.vm := hZ.alike.trans X.warmed.alike
  obtain ⟨A, hx⟩ := txt_of wi al E V C K hc hb l2
  obtain ⟨v, B, X', ⟨⟨hv, hh⟩, hl, hk, hs⟩, st⟩ := ChN.pays x t A cs.length (fun j => cs.getD j 0) z fm i (tabChN_of (movedChN hZ hw)) hfr hlo m meth c P g ig mk _ X hg hsize hdg hW hn ⟨r1, r2, rfl, hx, hi, sta_is al S, hz, sta_is al F, rf⟩
  exact ⟨v, B, X', ⟨[], ⟨hv, rfl, hh⟩, hl, hk, hs⟩, st⟩
/-- what backV says of its String, as the contracts of this text ask it: cs's low bytes, coder 0 -/
theorem codOf {cs : List Int32} {n : Nat} (hn : cs.length = n) (hb : ∀ c ∈ cs, ¬ 255 < c) : CodA cs 0 (Int32.ofNat n) ((cs.map lo8).map Value.int) := Or.inl ⟨rfl, by rw [hn], by simp [List.map_map, Function.comp_def], hb⟩
end StrChars.Road
end Jvm.Pilot.@@N@@

set_option maxRecDepth 65536
set_option maxHeartbeats 40000000
namespace Jvm.Pilot.@@N@@
open Jvm Jvm.ClassFile Sem Op Lib Jvm.Free Jvm.Stand Jvm.LawKit Jvm.RoadKit Bundle Jvm.Pilot.@@N@@.Jvm.D
def own_K (p : Program) (e : Env) (below : List Frame) (A B : State) : Prop := ∀ t, Steps p.tables e below A t → Steps p.tables e below B t
def own_J (p : Program) (e : Env) (below : List Frame) (T : State) (m : MethodId) (pc : Nat) (L : Array Slot) (S : List Value) (B : State) : Prop := ∀ t, Steps p.tables e below (T.setTop (mkF m pc L S)) t → Steps p.tables e below B t
theorem own_ifT_eq {x : Int32} (h : x = 0) : ifCond.holds .eq x = true := by simp [ifCond.holds, h]
theorem own_ifF_eq {x : Int32} (h : ¬ x = 0) : ifCond.holds .eq x = false := by simp [ifCond.holds, h]
theorem own_ifT_ne {x : Int32} (h : ¬ x = 0) : ifCond.holds .ne x = true := by simp [ifCond.holds, h]
theorem own_ifF_ne {x : Int32} (h : x = 0) : ifCond.holds .ne x = false := by simp [ifCond.holds, h]
theorem own_ifT_lt {x : Int32} (h : x < 0) : ifCond.holds .lt x = true := by simp [ifCond.holds, h]
theorem own_ifF_lt {x : Int32} (h : ¬ x < 0) : ifCond.holds .lt x = false := by simp [ifCond.holds, h]
theorem own_ifT_ge {x : Int32} (h : ¬ x < 0) : ifCond.holds .ge x = true := by simp [ifCond.holds, Int32.not_lt.mp h]
theorem own_ifF_ge {x : Int32} (h : x < 0) : ifCond.holds .ge x = false := by simp [ifCond.holds, Int32.not_le.mpr h]
theorem own_ifT_gt {x : Int32} (h : 0 < x) : ifCond.holds .gt x = true := by simp [ifCond.holds, h]
theorem own_ifF_gt {x : Int32} (h : ¬ 0 < x) : ifCond.holds .gt x = false := by simp [ifCond.holds, h]
theorem own_ifT_le {x : Int32} (h : ¬ 0 < x) : ifCond.holds .le x = true := by simp [ifCond.holds, Int32.not_lt.mp h]
theorem own_ifF_le {x : Int32} (h : 0 < x) : ifCond.holds .le x = false := by simp [ifCond.holds, Int32.not_le.mpr h]
theorem own_icT_eq {x y : Int32} (h : x = y) : if_icmp.holds .eq x y = true := by simp [if_icmp.holds, h]
theorem own_icF_eq {x y : Int32} (h : ¬ x = y) : if_icmp.holds .eq x y = false := by simp [if_icmp.holds, h]
theorem own_icT_ne {x y : Int32} (h : ¬ x = y) : if_icmp.holds .ne x y = true := by simp [if_icmp.holds, h]
theorem own_icF_ne {x y : Int32} (h : x = y) : if_icmp.holds .ne x y = false := by simp [if_icmp.holds, h]
theorem own_icT_lt {x y : Int32} (h : x < y) : if_icmp.holds .lt x y = true := by simp [if_icmp.holds, h]
theorem own_icF_lt {x y : Int32} (h : ¬ x < y) : if_icmp.holds .lt x y = false := by simp [if_icmp.holds, h]
theorem own_icT_ge {x y : Int32} (h : ¬ x < y) : if_icmp.holds .ge x y = true := by simp [if_icmp.holds, Int32.not_lt.mp h]
theorem own_icF_ge {x y : Int32} (h : x < y) : if_icmp.holds .ge x y = false := by simp [if_icmp.holds, Int32.not_le.mpr h]
theorem own_icT_gt {x y : Int32} (h : y < x) : if_icmp.holds .gt x y = true := by simp [if_icmp.holds, h]
theorem own_icF_gt {x y : Int32} (h : ¬ y < x) : if_icmp.holds .gt x y = false := by simp [if_icmp.holds, h]
theorem own_icT_le {x y : Int32} (h : ¬ y < x) : if_icmp.holds .le x y = true := by simp [if_icmp.holds, Int32.not_lt.mp h]
theorem own_icF_le {x y : Int32} (h : y < x) : if_icmp.holds .le x y = false := by simp [if_icmp.holds, Int32.not_le.mpr h]
theorem own_from {p : Program} {e : Env} {below : List Frame} {A B t : State} (h : B = A) (q : Steps p.tables e below B t) : Steps p.tables e below A t := h ▸ q
abbrev rO (f c s l : Nat) : Room := { frames := f, cells := c, slots := s, locals := l }
abbrev own_Met (l : Launch) (y : MethodName) (code : ByteArray) (ml : Nat) (ret : Option FieldType) (ws : List Jvm.Cond) (rm : Room) (as' : Array Value) (Z : State) (h0 : Heap) (Q : Option Value → Heap → List Loc → Prop) : Prop :=
  MetFree l y (head1 (Jvm.Cond.code y code ml ret :: ws) rm) (fun ar_ U => ar_ = as' ∧ Z.Warmed39 U.vm ∧ U.heap = h0) (fun _ _ _ _ _ => True) (fun _ U o U' => ∃ v L, o = .returned v ∧ Q v U'.heap L ∧ FrameEnd U o U' L rm.cells rm.slots)
theorem own_InsKeep {Z : State} {h h' : Heap} {b : Addr} {C : String} {bo : Bool} {ws : List Addr} (F : Ins Z h b C bo) (K : Keep h h' ws) (q : b ∉ ws) : Ins Z h' b C bo := by obtain ⟨cell, k, h1, r⟩ := F; exact ⟨cell, k, K.2.1 _ _ h1 q, r⟩
theorem own_l {a b : Nat} (h : Nat.ble a b = true) : a ≤ b := Nat.le_of_ble_eq_true h
theorem own_lt {a b : Nat} (h : Nat.ble (a + 1) b = true) : a < b := Nat.le_of_ble_eq_true h
theorem own_m0 {a : Addr} {P : Prop} : a ∈ [a] ∨ P := Or.inl (List.mem_of_getElem? (i := 0) rfl)
theorem wT {Z : State} {a0 : Array Value} (hw : ∀ d ∈ tables_1, d.before a0 Z = true) (i : Nat) {d : Jvm.Cond} (h : tables_1[i]? = some d) : d.before a0 Z = true := hw d (List.mem_of_getElem? h)
theorem own_mvNest {Z s : State} {a0 args : Array Value} {own host : String} {index : Nat} {y : MethodName} (hZ : Z.Warmed39 s.vm) (w : (Cond.methodLinkNest own index y host).before a0 Z = true) : (Cond.methodLinkNest own index y host).before args s = true := (Cond.methodLinkNest_wide hZ w :)
theorem own_pop2 {tb : Tables} [Ours tb] {e : Env} {below : List Frame} {T target : State} {m : MethodId} {c : Code} {g : JFrame} (h : At T m c below) (hx : tb.exec = Jvm.exec) (hg : g.method = m) {x : UInt64} {rest : List Value} (hd : decode c.code g.pc = .ok (.pop2, 1)) (hs : g.stack = .double x :: rest)
    (hr : Steps tb e below (T.setTop { g with pc := g.pc + 1, stack := rest }) target) : Steps tb e below (T.setTop g) target := by
  subst hg
  jvm_step h [h.top, hx, hd, hs, Value.category]
  exact hr
def own_Str (Z : State) (h : Heap) (a t : Addr) (kb : ClassId) (cs : List Int32) : Prop := Exa Z h a "java/lang/String" ∧ Fld Z h a "java/lang/String" "value" "[B" (.ref t) ∧ Fld Z h a "java/lang/String" "coder" "B" (.int 0) ∧ Arv Z h t kb .byte (Int32.ofNat cs.length) ((cs.map fun c => c.toInt8.toInt32).map Value.int) (.int 0)
theorem own_Str.ext {Z : State} {h h' : Heap} {a t : Addr} {kb : ClassId} {cs : List Int32} (S : own_Str Z h a t kb cs) (E : Ext h h') : own_Str Z h' a t kb cs := ⟨S.1.ext E, S.2.1.ext E, S.2.2.1.ext E, S.2.2.2.ext E⟩
theorem own_Str.keep {Z : State} {h h' : Heap} {ws : List Addr} {a t : Addr} {kb : ClassId} {cs : List Int32} (S : own_Str Z h a t kb cs) (K : Keep h h' ws) (q : a ∉ ws) (r : t ∉ ws) : own_Str Z h' a t kb cs := ⟨S.1.keep K, S.2.1.keep K q, S.2.2.1.keep K q, S.2.2.2.keep K r⟩
/-- a char of one byte -/
def own_b8 (c : Int32) : Prop := ¬ c < 0 ∧ ¬ (255 : Int32) < c
theorem own_b8.up {c : Int32} (h : own_b8 c) : ¬ c < 0 ∧ ¬ (65535 : Int32) < c := ⟨h.1, fun q => h.2 (by
  have q1 := Int32.lt_iff_toInt_lt.mp q
  rw [Int32.lt_iff_toInt_lt]
  rw [show (65535 : Int32).toInt = 65535 from rfl] at q1
  rw [show (255 : Int32).toInt = 255 from rfl]
  omega)⟩
theorem own_cod {cs : List Int32} (h : ∀ c ∈ cs, own_b8 c) : StrChars.Road.CodA cs 0 (Int32.ofNat cs.length) ((cs.map fun c => c.toInt8.toInt32).map Value.int) := StrChars.Road.codOf rfl fun c hc => (h c hc).2
theorem own_sub_words : ∀ d ∈ StrChars.Road.words, d ∈ tables_1 := by decide +kernel
theorem own_sub_wordsLen : ∀ d ∈ StrChars.Road.wordsLen, d ∈ tables_1 := by decide +kernel
theorem own_sub_wordsChN : ∀ d ∈ StrChars.Road.wordsChN, d ∈ tables_1 := by decide +kernel
theorem own_sub_wordsEmp : ∀ d ∈ StrChars.Road.wordsEmp, d ∈ tables_1 := by decide +kernel
def own_ok (c : Int32) : Prop := (97 ≤ c.toInt ∧ c.toInt ≤ 122) ∨ (65 ≤ c.toInt ∧ c.toInt ≤ 90) ∨ (48 ≤ c.toInt ∧ c.toInt ≤ 57) ∨ c.toInt = 95 ∨ c.toInt = 45
theorem own_ok_b8 {c : Int32} (h : own_ok c) : own_b8 c := by
  unfold own_ok at h
  constructor
  · rw [Int32.lt_iff_toInt_lt, show (0 : Int32).toInt = 0 from rfl]; omega
  · rw [Int32.lt_iff_toInt_lt, show (255 : Int32).toInt = 255 from rfl]; omega
theorem own_c16 {x : Int32} (h0 : 0 ≤ x.toInt) (h1 : x.toInt < 65536) : x.toUInt32.toUInt16.toUInt32.toInt32 = x := by
  have := c_i2c x
  apply Int32.toInt_inj.mp
  omega
theorem own_nar16 {x : Int32} (h0 : 0 ≤ x.toInt) (h1 : x.toInt < 65536) : nar .char x = x := own_c16 h0 h1
theorem own_ok_nar {x : Int32} (h : own_ok x) : nar .char x = x := own_nar16 (by unfold own_ok at h; omega) (by unfold own_ok at h; omega)
theorem own_k64 (x : Int32) : 0 ≤ ((x &&& (2147483647 : Int32)) % (64 : Int32)).toInt ∧ ((x &&& (2147483647 : Int32)) % (64 : Int32)).toInt < 64 := by
  have h1 := c_mask x (2147483647 : Int32) 31 (by decide) (by decide)
  have h2 := (c_irem (x &&& (2147483647 : Int32)) (64 : Int32) 64 rfl).1 (by rw [h1]; omega)
  rw [h2]; omega
/-- the char of each branch of allowed -/
theorem own_al1 {k : Int32} (h0 : 0 ≤ k.toInt) (h : k < (26 : Int32)) : own_ok (nar .char (((97 : Int32) + k).toUInt32.toUInt16.toUInt32.toInt32)) := by
  rw [Int32.lt_iff_toInt_lt, show (26 : Int32).toInt = 26 from rfl] at h
  have q := c_iadd (97 : Int32) k
  have r := rng32 ((97 : Int32) + k)
  rw [show (97 : Int32).toInt = 97 from rfl] at q
  have e : ((97 : Int32) + k).toInt = 97 + k.toInt := by omega
  rw [own_c16 (by omega) (by omega), own_nar16 (by omega) (by omega)]
  unfold own_ok; omega
theorem own_al2 {k : Int32} (h0 : ¬ k < (26 : Int32)) (h : k < (52 : Int32)) : own_ok (nar .char (((65 : Int32) + (k - (26 : Int32))).toUInt32.toUInt16.toUInt32.toInt32)) := by
  rw [Int32.lt_iff_toInt_lt, show (26 : Int32).toInt = 26 from rfl] at h0
  rw [Int32.lt_iff_toInt_lt, show (52 : Int32).toInt = 52 from rfl] at h
  have q0 := c_isub k (26 : Int32)
  have r0 := rng32 (k - (26 : Int32))
  rw [show (26 : Int32).toInt = 26 from rfl] at q0
  have q := c_iadd (65 : Int32) (k - (26 : Int32))
  have r := rng32 ((65 : Int32) + (k - (26 : Int32)))
  rw [show (65 : Int32).toInt = 65 from rfl] at q
  have e : ((65 : Int32) + (k - (26 : Int32))).toInt = 39 + k.toInt := by omega
  rw [own_c16 (by omega) (by omega), own_nar16 (by omega) (by omega)]
  unfold own_ok; omega
theorem own_al3 {k : Int32} (h0 : ¬ k < (52 : Int32)) (h : k < (62 : Int32)) : own_ok (nar .char (((48 : Int32) + (k - (52 : Int32))).toUInt32.toUInt16.toUInt32.toInt32)) := by
  rw [Int32.lt_iff_toInt_lt, show (52 : Int32).toInt = 52 from rfl] at h0
  rw [Int32.lt_iff_toInt_lt, show (62 : Int32).toInt = 62 from rfl] at h
  have q0 := c_isub k (52 : Int32)
  have r0 := rng32 (k - (52 : Int32))
  rw [show (52 : Int32).toInt = 52 from rfl] at q0
  have q := c_iadd (48 : Int32) (k - (52 : Int32))
  have r := rng32 ((48 : Int32) + (k - (52 : Int32)))
  rw [show (48 : Int32).toInt = 48 from rfl] at q
  have e : ((48 : Int32) + (k - (52 : Int32))).toInt = k.toInt - 4 := by omega
  rw [own_c16 (by omega) (by omega), own_nar16 (by omega) (by omega)]
  unfold own_ok; omega
theorem own_al4 : own_ok (95 : Int32) := Or.inr (Or.inr (Or.inr (Or.inl rfl)))
theorem own_al5 : own_ok (45 : Int32) := Or.inr (Or.inr (Or.inr (Or.inr rfl)))
theorem own_dead {c : Int32} (h : own_ok c) (h1 : c < (97 : Int32) ∨ (122 : Int32) < c) (h2 : c < (65 : Int32) ∨ (90 : Int32) < c) (h3 : c < (48 : Int32) ∨ (57 : Int32) < c) (h4 : ¬ c = (95 : Int32)) (h5 : ¬ c = (45 : Int32)) : False := by
  simp only [Int32.lt_iff_toInt_lt, show (97 : Int32).toInt = 97 from rfl, show (122 : Int32).toInt = 122 from rfl, show (65 : Int32).toInt = 65 from rfl, show (90 : Int32).toInt = 90 from rfl, show (48 : Int32).toInt = 48 from rfl, show (57 : Int32).toInt = 57 from rfl] at h1 h2 h3
  rw [← Int32.toInt_inj, show (95 : Int32).toInt = 95 from rfl] at h4
  rw [← Int32.toInt_inj, show (45 : Int32).toInt = 45 from rfl] at h5
  unfold own_ok at h; omega
theorem own_nat32 {n : Nat} (h : n < 2147483648) : (Int32.ofNat n).toInt = n := Int32.toInt_ofNat_of_lt (by omega)
theorem own_step32 {n : Nat} (h : n + 1 < 2147483648) : Int32.ofNat n + (1 : Int32) = Int32.ofNat (n + 1) := by
  have q := c_iadd (Int32.ofNat n) (1 : Int32)
  have r := rng32 (Int32.ofNat n + (1 : Int32))
  have e1 := own_nat32 (n := n) (by omega)
  have e2 := own_nat32 (n := n + 1) h
  rw [show (1 : Int32).toInt = 1 from rfl] at q
  apply Int32.toInt_inj.mp
  omega
theorem own_lt32 {i n : Nat} (h : n < 2147483648) (hi : i < 2147483648) : (Int32.ofNat i < Int32.ofNat n) ↔ i < n := by
  rw [Int32.lt_iff_toInt_lt, own_nat32 h, own_nat32 hi]; omega
theorem own_all_ok (cs : List Int32) (i : Nat) (hi : i < cs.length) (h : ∀ c ∈ cs, own_ok c) : own_ok (cs.getD i 0) := by
  rw [List.getD_eq_getElem?_getD, List.getElem?_eq_getElem hi]; exact h _ (List.getElem_mem hi)

theorem own_ok_narok {x : Int32} (h : own_ok x) : own_ok (nar .char x) := by rw [own_ok_nar h]; exact h
theorem own_lenA {Z : State} {h : Heap} {b : Addr} {k : ClassId} {d : Value} {z : List Int32} {n : Nat} (hl : z.length = n) (F : Arv Z h b k .char (Int32.ofNat n) (z.map Value.int) d) : Arv Z h b k .char (Int32.ofNat (List.length z)) (z.map Value.int) d := by
  rw [hl]; exact F
theorem own_lenp {z : List Int32} {n : Nat} (h : z.length = n) (q : 0 < n) : 0 < z.length := by rw [h]; exact q
theorem own_lenl {z : List Int32} {n k : Nat} (h : z.length = n) (q : n ≤ k) : z.length ≤ k := by rw [h]; exact q
theorem own_strAtoms {Z : State} {a0 : Array Value} (hw : ∀ d ∈ tables_1, d.before a0 Z = true) : ∀ a ∈ Bundle.stringAtoms, a.before a0 Z = true := by
  intro a ha
  simp only [Bundle.stringAtoms, List.mem_cons, List.not_mem_nil, or_false] at ha
  rcases ha with rfl | rfl | rfl | rfl | rfl | rfl | rfl
  · exact hw _ (List.mem_of_getElem? (i := 7) rfl)
  · exact hw _ (List.mem_of_getElem? (i := 15) rfl)
  · exact hw _ (List.mem_of_getElem? (i := 19) rfl)
  · exact hw _ (List.mem_of_getElem? (i := 28) rfl)
  · exact hw _ (List.mem_of_getElem? (i := 30) rfl)
  · exact hw _ (List.mem_of_getElem? (i := 36) rfl)
  · exact hw _ (List.mem_of_getElem? (i := 37) rfl)
def QI (r : Int32) (h0 : Heap) (n0 : Nat) (v : Option Value) (h : Heap) (L : List Loc) : Prop := v = some (.int r) ∧ Fr n0 L ∧ h = h0
def QR (r : Addr) (h0 : Heap) (n0 : Nat) (v : Option Value) (h : Heap) (L : List Loc) : Prop := v = some (.ref r) ∧ Fr n0 L ∧ h = h0
def QAl (h0 : Heap) (n0 : Nat) (v : Option Value) (h : Heap) (L : List Loc) : Prop := ∃ r : Int32, v = some (.int r) ∧ own_ok r ∧ Fr n0 L ∧ h = h0
theorem own_h1 : plainName "com/example/tidying/tidying/PoolNamesRequireValidPinLaw" = true := by first | (simp [plainName, overriddenIn]; done) | decide +kernel
theorem own_h2 : decode method_2_code 0 = .ok (.iload_n 0, 1) := by decide +kernel
theorem own_h3 : decode method_2_code 1 = .ok (.ldc 7, 2) := by decide +kernel
theorem own_h4 : decode method_2_code 3 = .ok (.iand, 1) := by decide +kernel
theorem own_h5 : decode method_2_code 4 = .ok (.bipush 64, 2) := by decide +kernel
theorem own_h6 : decode method_2_code 6 = .ok (.irem, 1) := by decide +kernel
theorem own_h7 : decode method_2_code 7 = .ok (.istore_n 1, 1) := by decide +kernel
theorem own_h8 : decode method_2_code 8 = .ok (.iload_n 1, 1) := by decide +kernel
theorem own_h9 : decode method_2_code 9 = .ok (.bipush 26, 2) := by decide +kernel
theorem own_h10 : decode method_2_code 11 = .ok (.if_icmp .ge 9, 3) := by decide +kernel
theorem own_h11 : decode method_2_code 14 = .ok (.bipush 97, 2) := by decide +kernel
theorem own_h12 : decode method_2_code 16 = .ok (.iload_n 1, 1) := by decide +kernel
theorem own_h13 : decode method_2_code 17 = .ok (.iadd, 1) := by decide +kernel
theorem own_h14 : decode method_2_code 18 = .ok (.i2c, 1) := by decide +kernel
theorem own_h15 : decode method_2_code 19 = .ok (.ireturn, 1) := by decide +kernel
theorem own_h16 : decode method_2_code 20 = .ok (.iload_n 1, 1) := by decide +kernel
theorem own_h17 : decode method_2_code 21 = .ok (.bipush 52, 2) := by decide +kernel
theorem own_h18 : decode method_2_code 23 = .ok (.if_icmp .ge 12, 3) := by decide +kernel
theorem own_h19 : decode method_2_code 26 = .ok (.bipush 65, 2) := by decide +kernel
theorem own_h20 : decode method_2_code 28 = .ok (.iload_n 1, 1) := by decide +kernel
theorem own_h21 : decode method_2_code 29 = .ok (.bipush 26, 2) := by decide +kernel
theorem own_h22 : decode method_2_code 31 = .ok (.isub, 1) := by decide +kernel
theorem own_h23 : decode method_2_code 32 = .ok (.iadd, 1) := by decide +kernel
theorem own_h24 : decode method_2_code 33 = .ok (.i2c, 1) := by decide +kernel
theorem own_h25 : decode method_2_code 34 = .ok (.ireturn, 1) := by decide +kernel
theorem own_h26 : decode method_2_code 35 = .ok (.iload_n 1, 1) := by decide +kernel
theorem own_h27 : decode method_2_code 36 = .ok (.bipush 62, 2) := by decide +kernel
theorem own_h28 : decode method_2_code 38 = .ok (.if_icmp .ge 12, 3) := by decide +kernel
theorem own_h29 : decode method_2_code 41 = .ok (.bipush 48, 2) := by decide +kernel
theorem own_h30 : decode method_2_code 43 = .ok (.iload_n 1, 1) := by decide +kernel
theorem own_h31 : decode method_2_code 44 = .ok (.bipush 52, 2) := by decide +kernel
theorem own_h32 : decode method_2_code 46 = .ok (.isub, 1) := by decide +kernel
theorem own_h33 : decode method_2_code 47 = .ok (.iadd, 1) := by decide +kernel
theorem own_h34 : decode method_2_code 48 = .ok (.i2c, 1) := by decide +kernel
theorem own_h35 : decode method_2_code 49 = .ok (.ireturn, 1) := by decide +kernel
theorem own_h36 : decode method_2_code 50 = .ok (.iload_n 1, 1) := by decide +kernel
theorem own_h37 : decode method_2_code 51 = .ok (.bipush 62, 2) := by decide +kernel
theorem own_h38 : decode method_2_code 53 = .ok (.if_icmp .ne 6, 3) := by decide +kernel
theorem own_h39 : decode method_2_code 56 = .ok (.bipush 95, 2) := by decide +kernel
theorem own_h40 : decode method_2_code 58 = .ok (.ireturn, 1) := by decide +kernel
theorem own_h41 : decode method_2_code 59 = .ok (.bipush 45, 2) := by decide +kernel
theorem own_h42 : decode method_2_code 61 = .ok (.ireturn, 1) := by decide +kernel
theorem rmAl (l : Launch) (Z : State) (a0 : Array Value) (hw : ∀ d ∈ tables_1, d.before a0 Z = true) (ws : List Jvm.Cond) (xv : Int32) (h0 : Heap) (n0 : Nat) (Z0 : n0 ≤ h0.size) :
    own_Met l (⟨"com/example/tidying/tidying/PoolNamesRequireValidPinLaw", "allowed", "(I)C"⟩ : MethodName) method_2_code 2 (some .char) ws (rO 0 0 0 0) #[(.int xv)] Z h0 (QAl h0 n0) := by
  refine MetFree.of_bodySF (plainFor_of_name own_h1) hisR ?_
  intro p e s m args below meth c s₁ Bd hml0 hP hK
  obtain ⟨rfl, hZ, hh⟩ := hP
  have hx := Bd.exec
  have hby := Bd.bytes
  have hml : c.maxLocals = 2 := hml0
  have hown : s.vm.findClass "com/example/tidying/tidying/PoolNamesRequireValidPinLaw" = some m.cls := findClass_of_methodNamed Bd.named
  have hnm := (name_of_methodNamed Bd.named Bd.method).1
  have X0 : Stand p l e (rO 0 0 0 0) s m #[(.int xv)] below meth c s₁ [] 0 0 := Stand.of_body Bd
  have e0 : s₁.heap = h0 := by rw [← hh, Bd.state]; rfl
  have N0 := Fr.nil n0
  obtain ⟨B_, hB_⟩ : ∃ z, z = s₁.setTop (entryFrame m #[(.int xv)] 2) := ⟨_, rfl⟩
  have k0 : own_K p e below (s₁.setTop (mkF m 0 #[.val (.int xv), .unset] [])) B_ := by rw [hB_]; exact fun t k => castTop (by clear k; first | (simp [entryFrame, mkF, argsToLocals, Value.category, maxLocals]; done) | rfl) k
  have k1 : own_J p e below s₁ m 11 #[.val (.int xv), .val (.int ((xv &&& (2147483647 : Int32)) % (64 : Int32)))] [(.int (26 : Int32)), (.int ((xv &&& (2147483647 : Int32)) % (64 : Int32)))] B_ := fun t_ hh => k0 t_ (by
    refine XS.iloadN X0.here hx rfl (hb hby own_h2) rfl ?_
    refine X0.ldcInt hx hown (mvT hZ (wT hw 4 rfl)) (g := (mkF m 1 #[.val (.int xv), .unset] [(.int xv)])) rfl (hb hby own_h3) _ ?_
    refine XS.iand X0.here hx rfl (hb hby own_h4) rfl ?_
    refine XS.bipush X0.here hx rfl (hb hby own_h5) ?_
    refine iremM X0 hx (g := (mkF m 6 #[.val (.int xv), .unset] [(.int (64 : Int32)), (.int (xv &&& (2147483647 : Int32)))])) rfl (hb hby own_h6) rfl (by decide) ?_
    refine XS.istoreN X0.here hx rfl (hb hby own_h7) rfl (l' := #[.val (.int xv), .val (.int ((xv &&& (2147483647 : Int32)) % (64 : Int32)))]) rfl ?_
    refine XS.iloadN X0.here hx rfl (hb hby own_h8) rfl ?_
    refine XS.bipush X0.here hx rfl (hb hby own_h9) ?_
    exact hh)
  by_cases c11 : ((xv &&& (2147483647 : Int32)) % (64 : Int32)) < (26 : Int32)
  ·
    have k2 : own_J p e below s₁ m 19 #[.val (.int xv), .val (.int ((xv &&& (2147483647 : Int32)) % (64 : Int32)))] [(.int (((97 : Int32) + ((xv &&& (2147483647 : Int32)) % (64 : Int32))).toUInt32.toUInt16.toUInt32.toInt32))] B_ := fun t_ hh => k1 t_ (by
      refine XS.icmpNo X0.here hx rfl (hb hby own_h10) rfl (own_icF_ge c11) ?_
      refine XS.bipush X0.here hx rfl (hb hby own_h11) ?_
      refine XS.iloadN X0.here hx rfl (hb hby own_h12) rfl ?_
      refine XS.iadd X0.here hx rfl (hb hby own_h13) rfl ?_
      refine XS.i2c X0.here hx rfl (hb hby own_h14) rfl ?_
      exact hh)
    clear k1
    obtain ⟨fs, hr, hrun, hended, hW, hsame⟩ := X0.leave (v := some (.int (nar .char (((97 : Int32) + ((xv &&& (2147483647 : Int32)) % (64 : Int32))).toUInt32.toUInt16.toUInt32.toInt32)))) (fun h => by rw [Bd.returns] at h; cases h)
    refine ⟨_, _, (own_from hB_ (k2 _ (retN X0 hx (t := .char) Bd.returns (by simp) (hb hby own_h15) hr))), hrun, hended, _, _, rfl, ?_, ⟨_, rfl⟩, hW, hsame.mono (own_l rfl) (own_l rfl)⟩
    show QAl h0 n0 _ s₁.heap _
    rw [e0]
    exact ⟨_, rfl, (own_al1 (own_k64 xv).1 c11), N0, rfl⟩
  ·
    have k3 : own_J p e below s₁ m 23 #[.val (.int xv), .val (.int ((xv &&& (2147483647 : Int32)) % (64 : Int32)))] [(.int (52 : Int32)), (.int ((xv &&& (2147483647 : Int32)) % (64 : Int32)))] B_ := fun t_ hh => k1 t_ (by
      refine XS.icmpYes X0.here hx rfl (pc0 := 11) (pc' := 20) rfl (hb hby own_h10) rfl (own_icT_ge c11) (by decide) (by decide) ?_
      refine XS.iloadN X0.here hx rfl (hb hby own_h16) rfl ?_
      refine XS.bipush X0.here hx rfl (hb hby own_h17) ?_
      exact hh)
    clear k1
    by_cases c23 : ((xv &&& (2147483647 : Int32)) % (64 : Int32)) < (52 : Int32)
    ·
      have k4 : own_J p e below s₁ m 34 #[.val (.int xv), .val (.int ((xv &&& (2147483647 : Int32)) % (64 : Int32)))] [(.int (((65 : Int32) + (((xv &&& (2147483647 : Int32)) % (64 : Int32)) - (26 : Int32))).toUInt32.toUInt16.toUInt32.toInt32))] B_ := fun t_ hh => k3 t_ (by
        refine XS.icmpNo X0.here hx rfl (hb hby own_h18) rfl (own_icF_ge c23) ?_
        refine XS.bipush X0.here hx rfl (hb hby own_h19) ?_
        refine XS.iloadN X0.here hx rfl (hb hby own_h20) rfl ?_
        refine XS.bipush X0.here hx rfl (hb hby own_h21) ?_
        refine XS.isub X0.here hx rfl (hb hby own_h22) rfl ?_
        refine XS.iadd X0.here hx rfl (hb hby own_h23) rfl ?_
        refine XS.i2c X0.here hx rfl (hb hby own_h24) rfl ?_
        exact hh)
      clear k3
      obtain ⟨fs, hr, hrun, hended, hW, hsame⟩ := X0.leave (v := some (.int (nar .char (((65 : Int32) + (((xv &&& (2147483647 : Int32)) % (64 : Int32)) - (26 : Int32))).toUInt32.toUInt16.toUInt32.toInt32)))) (fun h => by rw [Bd.returns] at h; cases h)
      refine ⟨_, _, (own_from hB_ (k4 _ (retN X0 hx (t := .char) Bd.returns (by simp) (hb hby own_h25) hr))), hrun, hended, _, _, rfl, ?_, ⟨_, rfl⟩, hW, hsame.mono (own_l rfl) (own_l rfl)⟩
      show QAl h0 n0 _ s₁.heap _
      rw [e0]
      exact ⟨_, rfl, (own_al2 c11 c23), N0, rfl⟩
    ·
      have k5 : own_J p e below s₁ m 38 #[.val (.int xv), .val (.int ((xv &&& (2147483647 : Int32)) % (64 : Int32)))] [(.int (62 : Int32)), (.int ((xv &&& (2147483647 : Int32)) % (64 : Int32)))] B_ := fun t_ hh => k3 t_ (by
        refine XS.icmpYes X0.here hx rfl (pc0 := 23) (pc' := 35) rfl (hb hby own_h18) rfl (own_icT_ge c23) (by decide) (by decide) ?_
        refine XS.iloadN X0.here hx rfl (hb hby own_h26) rfl ?_
        refine XS.bipush X0.here hx rfl (hb hby own_h27) ?_
        exact hh)
      clear k3
      by_cases c38 : ((xv &&& (2147483647 : Int32)) % (64 : Int32)) < (62 : Int32)
      ·
        have k6 : own_J p e below s₁ m 49 #[.val (.int xv), .val (.int ((xv &&& (2147483647 : Int32)) % (64 : Int32)))] [(.int (((48 : Int32) + (((xv &&& (2147483647 : Int32)) % (64 : Int32)) - (52 : Int32))).toUInt32.toUInt16.toUInt32.toInt32))] B_ := fun t_ hh => k5 t_ (by
          refine XS.icmpNo X0.here hx rfl (hb hby own_h28) rfl (own_icF_ge c38) ?_
          refine XS.bipush X0.here hx rfl (hb hby own_h29) ?_
          refine XS.iloadN X0.here hx rfl (hb hby own_h30) rfl ?_
          refine XS.bipush X0.here hx rfl (hb hby own_h31) ?_
          refine XS.isub X0.here hx rfl (hb hby own_h32) rfl ?_
          refine XS.iadd X0.here hx rfl (hb hby own_h33) rfl ?_
          refine XS.i2c X0.here hx rfl (hb hby own_h34) rfl ?_
          exact hh)
        clear k5
        obtain ⟨fs, hr, hrun, hended, hW, hsame⟩ := X0.leave (v := some (.int (nar .char (((48 : Int32) + (((xv &&& (2147483647 : Int32)) % (64 : Int32)) - (52 : Int32))).toUInt32.toUInt16.toUInt32.toInt32)))) (fun h => by rw [Bd.returns] at h; cases h)
        refine ⟨_, _, (own_from hB_ (k6 _ (retN X0 hx (t := .char) Bd.returns (by simp) (hb hby own_h35) hr))), hrun, hended, _, _, rfl, ?_, ⟨_, rfl⟩, hW, hsame.mono (own_l rfl) (own_l rfl)⟩
        show QAl h0 n0 _ s₁.heap _
        rw [e0]
        exact ⟨_, rfl, (own_al3 c23 c38), N0, rfl⟩
      ·
        have k7 : own_J p e below s₁ m 53 #[.val (.int xv), .val (.int ((xv &&& (2147483647 : Int32)) % (64 : Int32)))] [(.int (62 : Int32)), (.int ((xv &&& (2147483647 : Int32)) % (64 : Int32)))] B_ := fun t_ hh => k5 t_ (by
          refine XS.icmpYes X0.here hx rfl (pc0 := 38) (pc' := 50) rfl (hb hby own_h28) rfl (own_icT_ge c38) (by decide) (by decide) ?_
          refine XS.iloadN X0.here hx rfl (hb hby own_h36) rfl ?_
          refine XS.bipush X0.here hx rfl (hb hby own_h37) ?_
          exact hh)
        clear k5
        by_cases c53 : ((xv &&& (2147483647 : Int32)) % (64 : Int32)) = (62 : Int32)
        ·
          have k8 : own_J p e below s₁ m 58 #[.val (.int xv), .val (.int ((xv &&& (2147483647 : Int32)) % (64 : Int32)))] [(.int (95 : Int32))] B_ := fun t_ hh => k7 t_ (by
            refine XS.icmpNo X0.here hx rfl (hb hby own_h38) rfl (own_icF_ne c53) ?_
            refine XS.bipush X0.here hx rfl (hb hby own_h39) ?_
            exact hh)
          clear k7
          obtain ⟨fs, hr, hrun, hended, hW, hsame⟩ := X0.leave (v := some (.int (95 : Int32))) (fun h => by rw [Bd.returns] at h; cases h)
          refine ⟨_, _, (own_from hB_ (k8 _ (retN X0 hx (t := .char) Bd.returns (by simp) (hb hby own_h40) hr))), hrun, hended, _, _, rfl, ?_, ⟨_, rfl⟩, hW, hsame.mono (own_l rfl) (own_l rfl)⟩
          show QAl h0 n0 _ s₁.heap _
          rw [e0]
          exact ⟨_, rfl, own_al4, N0, rfl⟩
        ·
          have k9 : own_J p e below s₁ m 61 #[.val (.int xv), .val (.int ((xv &&& (2147483647 : Int32)) % (64 : Int32)))] [(.int (45 : Int32))] B_ := fun t_ hh => k7 t_ (by
            refine XS.icmpYes X0.here hx rfl (pc0 := 53) (pc' := 59) rfl (hb hby own_h38) rfl (own_icT_ne c53) (by decide) (by decide) ?_
            refine XS.bipush X0.here hx rfl (hb hby own_h41) ?_
            exact hh)
          clear k7
          obtain ⟨fs, hr, hrun, hended, hW, hsame⟩ := X0.leave (v := some (.int (45 : Int32))) (fun h => by rw [Bd.returns] at h; cases h)
          refine ⟨_, _, (own_from hB_ (k9 _ (retN X0 hx (t := .char) Bd.returns (by simp) (hb hby own_h42) hr))), hrun, hended, _, _, rfl, ?_, ⟨_, rfl⟩, hW, hsame.mono (own_l rfl) (own_l rfl)⟩
          show QAl h0 n0 _ s₁.heap _
          rw [e0]
          exact ⟨_, rfl, own_al5, N0, rfl⟩
theorem own_h43 : plainName "com/example/tidying/tidying/PoolNames" = true := by first | (simp [plainName, overriddenIn]; done) | decide +kernel
theorem own_h44 : decode prog_3_method_3_code 0 = .ok (.iload_n 0, 1) := by decide +kernel
theorem own_h45 : decode prog_3_method_3_code 1 = .ok (.bipush 97, 2) := by decide +kernel
theorem own_h46 : decode prog_3_method_3_code 3 = .ok (.if_icmp .lt 9, 3) := by decide +kernel
theorem own_h47 : decode prog_3_method_3_code 12 = .ok (.iload_n 0, 1) := by decide +kernel
theorem own_h48 : decode prog_3_method_3_code 13 = .ok (.bipush 65, 2) := by decide +kernel
theorem own_h49 : decode prog_3_method_3_code 15 = .ok (.if_icmp .lt 9, 3) := by decide +kernel
theorem own_h50 : decode prog_3_method_3_code 24 = .ok (.iload_n 0, 1) := by decide +kernel
theorem own_h51 : decode prog_3_method_3_code 25 = .ok (.bipush 48, 2) := by decide +kernel
theorem own_h52 : decode prog_3_method_3_code 27 = .ok (.if_icmp .lt 9, 3) := by decide +kernel
theorem own_h53 : decode prog_3_method_3_code 36 = .ok (.iload_n 0, 1) := by decide +kernel
theorem own_h54 : decode prog_3_method_3_code 37 = .ok (.bipush 95, 2) := by decide +kernel
theorem own_h55 : decode prog_3_method_3_code 39 = .ok (.if_icmp .eq 9, 3) := by decide +kernel
theorem own_h56 : decode prog_3_method_3_code 48 = .ok (.iconst 1, 1) := by decide +kernel
theorem own_h57 : decode prog_3_method_3_code 49 = .ok (.goto 4, 3) := by decide +kernel
theorem own_h58 : decode prog_3_method_3_code 53 = .ok (.ireturn, 1) := by decide +kernel
theorem own_h59 : decode prog_3_method_3_code 42 = .ok (.iload_n 0, 1) := by decide +kernel
theorem own_h60 : decode prog_3_method_3_code 43 = .ok (.bipush 45, 2) := by decide +kernel
theorem own_h61 : decode prog_3_method_3_code 45 = .ok (.if_icmp .ne 7, 3) := by decide +kernel
theorem own_h62 : decode prog_3_method_3_code 30 = .ok (.iload_n 0, 1) := by decide +kernel
theorem own_h63 : decode prog_3_method_3_code 31 = .ok (.bipush 57, 2) := by decide +kernel
theorem own_h64 : decode prog_3_method_3_code 33 = .ok (.if_icmp .le 15, 3) := by decide +kernel
theorem own_h65 : decode prog_3_method_3_code 18 = .ok (.iload_n 0, 1) := by decide +kernel
theorem own_h66 : decode prog_3_method_3_code 19 = .ok (.bipush 90, 2) := by decide +kernel
theorem own_h67 : decode prog_3_method_3_code 21 = .ok (.if_icmp .le 27, 3) := by decide +kernel
theorem own_h68 : decode prog_3_method_3_code 6 = .ok (.iload_n 0, 1) := by decide +kernel
theorem own_h69 : decode prog_3_method_3_code 7 = .ok (.bipush 122, 2) := by decide +kernel
theorem own_h70 : decode prog_3_method_3_code 9 = .ok (.if_icmp .le 39, 3) := by decide +kernel
theorem rmIa (l : Launch) (Z : State) (a0 : Array Value) (hw : ∀ d ∈ tables_1, d.before a0 Z = true) (ws : List Jvm.Cond) (cv : Int32) (h0 : Heap) (n0 : Nat) (Z0 : n0 ≤ h0.size) (hok : own_ok cv) :
    own_Met l (⟨"com/example/tidying/tidying/PoolNames", "isAllowed", "(C)Z"⟩ : MethodName) prog_3_method_3_code 1 (some .boolean) ws (rO 0 0 0 0) #[(.int cv)] Z h0 (QI (1 : Int32) h0 n0) := by
  refine MetFree.of_bodySF (plainFor_of_name own_h43) hisR ?_
  intro p e s m args below meth c s₁ Bd hml0 hP hK
  obtain ⟨rfl, hZ, hh⟩ := hP
  have hx := Bd.exec
  have hby := Bd.bytes
  have hml : c.maxLocals = 1 := hml0
  have hown : s.vm.findClass "com/example/tidying/tidying/PoolNames" = some m.cls := findClass_of_methodNamed Bd.named
  have hnm := (name_of_methodNamed Bd.named Bd.method).1
  have X0 : Stand p l e (rO 0 0 0 0) s m #[(.int cv)] below meth c s₁ [] 0 0 := Stand.of_body Bd
  have e0 : s₁.heap = h0 := by rw [← hh, Bd.state]; rfl
  have N0 := Fr.nil n0
  obtain ⟨B_, hB_⟩ : ∃ z, z = s₁.setTop (entryFrame m #[(.int cv)] 1) := ⟨_, rfl⟩
  have k0 : own_K p e below (s₁.setTop (mkF m 0 #[.val (.int cv)] [])) B_ := by rw [hB_]; exact fun t k => castTop (by clear k; first | (simp [entryFrame, mkF, argsToLocals, Value.category, maxLocals]; done) | rfl) k
  have k1 : own_J p e below s₁ m 3 #[.val (.int cv)] [(.int (97 : Int32)), (.int cv)] B_ := fun t_ hh => k0 t_ (by
    refine XS.iloadN X0.here hx rfl (hb hby own_h44) rfl ?_
    refine XS.bipush X0.here hx rfl (hb hby own_h45) ?_
    exact hh)
  by_cases c3 : cv < (97 : Int32)
  ·
    have k2 : own_J p e below s₁ m 15 #[.val (.int cv)] [(.int (65 : Int32)), (.int cv)] B_ := fun t_ hh => k1 t_ (by
      refine XS.icmpYes X0.here hx rfl (pc0 := 3) (pc' := 12) rfl (hb hby own_h46) rfl (own_icT_lt c3) (by decide) (by decide) ?_
      refine XS.iloadN X0.here hx rfl (hb hby own_h47) rfl ?_
      refine XS.bipush X0.here hx rfl (hb hby own_h48) ?_
      exact hh)
    clear k1
    by_cases c15 : cv < (65 : Int32)
    ·
      have k3 : own_J p e below s₁ m 27 #[.val (.int cv)] [(.int (48 : Int32)), (.int cv)] B_ := fun t_ hh => k2 t_ (by
        refine XS.icmpYes X0.here hx rfl (pc0 := 15) (pc' := 24) rfl (hb hby own_h49) rfl (own_icT_lt c15) (by decide) (by decide) ?_
        refine XS.iloadN X0.here hx rfl (hb hby own_h50) rfl ?_
        refine XS.bipush X0.here hx rfl (hb hby own_h51) ?_
        exact hh)
      clear k2
      by_cases c27 : cv < (48 : Int32)
      ·
        have k4 : own_J p e below s₁ m 39 #[.val (.int cv)] [(.int (95 : Int32)), (.int cv)] B_ := fun t_ hh => k3 t_ (by
          refine XS.icmpYes X0.here hx rfl (pc0 := 27) (pc' := 36) rfl (hb hby own_h52) rfl (own_icT_lt c27) (by decide) (by decide) ?_
          refine XS.iloadN X0.here hx rfl (hb hby own_h53) rfl ?_
          refine XS.bipush X0.here hx rfl (hb hby own_h54) ?_
          exact hh)
        clear k3
        by_cases c39 : cv = (95 : Int32)
        ·
          have k5 : own_J p e below s₁ m 53 #[.val (.int cv)] [(.int (1 : Int32))] B_ := fun t_ hh => k4 t_ (by
            refine XS.icmpYes X0.here hx rfl (pc0 := 39) (pc' := 48) rfl (hb hby own_h55) rfl (own_icT_eq c39) (by decide) (by decide) ?_
            refine XS.iconst X0.here hx rfl (hb hby own_h56) ?_
            refine XS.goto X0.here hx rfl (pc0 := 49) (pc' := 53) rfl (hb hby own_h57) (by decide) (by decide) ?_
            exact hh)
          clear k4
          obtain ⟨fs, hr, hrun, hended, hW, hsame⟩ := X0.leave (v := some (.int (1 : Int32))) (fun h => by rw [Bd.returns] at h; cases h)
          refine ⟨_, _, (own_from hB_ (k5 _ (retN X0 hx (t := .boolean) Bd.returns (by simp) (hb hby own_h58) hr))), hrun, hended, _, _, rfl, ?_, ⟨_, rfl⟩, hW, hsame.mono (own_l rfl) (own_l rfl)⟩
          show QI (1 : Int32) h0 n0 _ s₁.heap _
          rw [e0]
          exact ⟨rfl, N0, rfl⟩
        ·
          have k6 : own_J p e below s₁ m 45 #[.val (.int cv)] [(.int (45 : Int32)), (.int cv)] B_ := fun t_ hh => k4 t_ (by
            refine XS.icmpNo X0.here hx rfl (hb hby own_h55) rfl (own_icF_eq c39) ?_
            refine XS.iloadN X0.here hx rfl (hb hby own_h59) rfl ?_
            refine XS.bipush X0.here hx rfl (hb hby own_h60) ?_
            exact hh)
          clear k4
          by_cases c45 : cv = (45 : Int32)
          ·
            have k7 : own_J p e below s₁ m 53 #[.val (.int cv)] [(.int (1 : Int32))] B_ := fun t_ hh => k6 t_ (by
              refine XS.icmpNo X0.here hx rfl (hb hby own_h61) rfl (own_icF_ne c45) ?_
              refine XS.iconst X0.here hx rfl (hb hby own_h56) ?_
              refine XS.goto X0.here hx rfl (pc0 := 49) (pc' := 53) rfl (hb hby own_h57) (by decide) (by decide) ?_
              exact hh)
            clear k6
            obtain ⟨fs, hr, hrun, hended, hW, hsame⟩ := X0.leave (v := some (.int (1 : Int32))) (fun h => by rw [Bd.returns] at h; cases h)
            refine ⟨_, _, (own_from hB_ (k7 _ (retN X0 hx (t := .boolean) Bd.returns (by simp) (hb hby own_h58) hr))), hrun, hended, _, _, rfl, ?_, ⟨_, rfl⟩, hW, hsame.mono (own_l rfl) (own_l rfl)⟩
            show QI (1 : Int32) h0 n0 _ s₁.heap _
            rw [e0]
            exact ⟨rfl, N0, rfl⟩
          ·
            exact (own_dead hok (Or.inl c3) (Or.inl c15) (Or.inl c27) c39 c45).elim
      ·
        have k8 : own_J p e below s₁ m 33 #[.val (.int cv)] [(.int (57 : Int32)), (.int cv)] B_ := fun t_ hh => k3 t_ (by
          refine XS.icmpNo X0.here hx rfl (hb hby own_h52) rfl (own_icF_lt c27) ?_
          refine XS.iloadN X0.here hx rfl (hb hby own_h62) rfl ?_
          refine XS.bipush X0.here hx rfl (hb hby own_h63) ?_
          exact hh)
        clear k3
        by_cases c33 : (57 : Int32) < cv
        ·
          have k9 : own_J p e below s₁ m 39 #[.val (.int cv)] [(.int (95 : Int32)), (.int cv)] B_ := fun t_ hh => k8 t_ (by
            refine XS.icmpNo X0.here hx rfl (hb hby own_h64) rfl (own_icF_le c33) ?_
            refine XS.iloadN X0.here hx rfl (hb hby own_h53) rfl ?_
            refine XS.bipush X0.here hx rfl (hb hby own_h54) ?_
            exact hh)
          clear k8
          by_cases c39 : cv = (95 : Int32)
          ·
            have k10 : own_J p e below s₁ m 53 #[.val (.int cv)] [(.int (1 : Int32))] B_ := fun t_ hh => k9 t_ (by
              refine XS.icmpYes X0.here hx rfl (pc0 := 39) (pc' := 48) rfl (hb hby own_h55) rfl (own_icT_eq c39) (by decide) (by decide) ?_
              refine XS.iconst X0.here hx rfl (hb hby own_h56) ?_
              refine XS.goto X0.here hx rfl (pc0 := 49) (pc' := 53) rfl (hb hby own_h57) (by decide) (by decide) ?_
              exact hh)
            clear k9
            obtain ⟨fs, hr, hrun, hended, hW, hsame⟩ := X0.leave (v := some (.int (1 : Int32))) (fun h => by rw [Bd.returns] at h; cases h)
            refine ⟨_, _, (own_from hB_ (k10 _ (retN X0 hx (t := .boolean) Bd.returns (by simp) (hb hby own_h58) hr))), hrun, hended, _, _, rfl, ?_, ⟨_, rfl⟩, hW, hsame.mono (own_l rfl) (own_l rfl)⟩
            show QI (1 : Int32) h0 n0 _ s₁.heap _
            rw [e0]
            exact ⟨rfl, N0, rfl⟩
          ·
            have k11 : own_J p e below s₁ m 45 #[.val (.int cv)] [(.int (45 : Int32)), (.int cv)] B_ := fun t_ hh => k9 t_ (by
              refine XS.icmpNo X0.here hx rfl (hb hby own_h55) rfl (own_icF_eq c39) ?_
              refine XS.iloadN X0.here hx rfl (hb hby own_h59) rfl ?_
              refine XS.bipush X0.here hx rfl (hb hby own_h60) ?_
              exact hh)
            clear k9
            by_cases c45 : cv = (45 : Int32)
            ·
              have k12 : own_J p e below s₁ m 53 #[.val (.int cv)] [(.int (1 : Int32))] B_ := fun t_ hh => k11 t_ (by
                refine XS.icmpNo X0.here hx rfl (hb hby own_h61) rfl (own_icF_ne c45) ?_
                refine XS.iconst X0.here hx rfl (hb hby own_h56) ?_
                refine XS.goto X0.here hx rfl (pc0 := 49) (pc' := 53) rfl (hb hby own_h57) (by decide) (by decide) ?_
                exact hh)
              clear k11
              obtain ⟨fs, hr, hrun, hended, hW, hsame⟩ := X0.leave (v := some (.int (1 : Int32))) (fun h => by rw [Bd.returns] at h; cases h)
              refine ⟨_, _, (own_from hB_ (k12 _ (retN X0 hx (t := .boolean) Bd.returns (by simp) (hb hby own_h58) hr))), hrun, hended, _, _, rfl, ?_, ⟨_, rfl⟩, hW, hsame.mono (own_l rfl) (own_l rfl)⟩
              show QI (1 : Int32) h0 n0 _ s₁.heap _
              rw [e0]
              exact ⟨rfl, N0, rfl⟩
            ·
              exact (own_dead hok (Or.inl c3) (Or.inl c15) (Or.inr c33) c39 c45).elim
        ·
          have k13 : own_J p e below s₁ m 53 #[.val (.int cv)] [(.int (1 : Int32))] B_ := fun t_ hh => k8 t_ (by
            refine XS.icmpYes X0.here hx rfl (pc0 := 33) (pc' := 48) rfl (hb hby own_h64) rfl (own_icT_le c33) (by decide) (by decide) ?_
            refine XS.iconst X0.here hx rfl (hb hby own_h56) ?_
            refine XS.goto X0.here hx rfl (pc0 := 49) (pc' := 53) rfl (hb hby own_h57) (by decide) (by decide) ?_
            exact hh)
          clear k8
          obtain ⟨fs, hr, hrun, hended, hW, hsame⟩ := X0.leave (v := some (.int (1 : Int32))) (fun h => by rw [Bd.returns] at h; cases h)
          refine ⟨_, _, (own_from hB_ (k13 _ (retN X0 hx (t := .boolean) Bd.returns (by simp) (hb hby own_h58) hr))), hrun, hended, _, _, rfl, ?_, ⟨_, rfl⟩, hW, hsame.mono (own_l rfl) (own_l rfl)⟩
          show QI (1 : Int32) h0 n0 _ s₁.heap _
          rw [e0]
          exact ⟨rfl, N0, rfl⟩
    ·
      have k14 : own_J p e below s₁ m 21 #[.val (.int cv)] [(.int (90 : Int32)), (.int cv)] B_ := fun t_ hh => k2 t_ (by
        refine XS.icmpNo X0.here hx rfl (hb hby own_h49) rfl (own_icF_lt c15) ?_
        refine XS.iloadN X0.here hx rfl (hb hby own_h65) rfl ?_
        refine XS.bipush X0.here hx rfl (hb hby own_h66) ?_
        exact hh)
      clear k2
      by_cases c21 : (90 : Int32) < cv
      ·
        have k15 : own_J p e below s₁ m 27 #[.val (.int cv)] [(.int (48 : Int32)), (.int cv)] B_ := fun t_ hh => k14 t_ (by
          refine XS.icmpNo X0.here hx rfl (hb hby own_h67) rfl (own_icF_le c21) ?_
          refine XS.iloadN X0.here hx rfl (hb hby own_h50) rfl ?_
          refine XS.bipush X0.here hx rfl (hb hby own_h51) ?_
          exact hh)
        clear k14
        by_cases c27 : cv < (48 : Int32)
        ·
          have k16 : own_J p e below s₁ m 39 #[.val (.int cv)] [(.int (95 : Int32)), (.int cv)] B_ := fun t_ hh => k15 t_ (by
            refine XS.icmpYes X0.here hx rfl (pc0 := 27) (pc' := 36) rfl (hb hby own_h52) rfl (own_icT_lt c27) (by decide) (by decide) ?_
            refine XS.iloadN X0.here hx rfl (hb hby own_h53) rfl ?_
            refine XS.bipush X0.here hx rfl (hb hby own_h54) ?_
            exact hh)
          clear k15
          by_cases c39 : cv = (95 : Int32)
          ·
            have k17 : own_J p e below s₁ m 53 #[.val (.int cv)] [(.int (1 : Int32))] B_ := fun t_ hh => k16 t_ (by
              refine XS.icmpYes X0.here hx rfl (pc0 := 39) (pc' := 48) rfl (hb hby own_h55) rfl (own_icT_eq c39) (by decide) (by decide) ?_
              refine XS.iconst X0.here hx rfl (hb hby own_h56) ?_
              refine XS.goto X0.here hx rfl (pc0 := 49) (pc' := 53) rfl (hb hby own_h57) (by decide) (by decide) ?_
              exact hh)
            clear k16
            obtain ⟨fs, hr, hrun, hended, hW, hsame⟩ := X0.leave (v := some (.int (1 : Int32))) (fun h => by rw [Bd.returns] at h; cases h)
            refine ⟨_, _, (own_from hB_ (k17 _ (retN X0 hx (t := .boolean) Bd.returns (by simp) (hb hby own_h58) hr))), hrun, hended, _, _, rfl, ?_, ⟨_, rfl⟩, hW, hsame.mono (own_l rfl) (own_l rfl)⟩
            show QI (1 : Int32) h0 n0 _ s₁.heap _
            rw [e0]
            exact ⟨rfl, N0, rfl⟩
          ·
            have k18 : own_J p e below s₁ m 45 #[.val (.int cv)] [(.int (45 : Int32)), (.int cv)] B_ := fun t_ hh => k16 t_ (by
              refine XS.icmpNo X0.here hx rfl (hb hby own_h55) rfl (own_icF_eq c39) ?_
              refine XS.iloadN X0.here hx rfl (hb hby own_h59) rfl ?_
              refine XS.bipush X0.here hx rfl (hb hby own_h60) ?_
              exact hh)
            clear k16
            by_cases c45 : cv = (45 : Int32)
            ·
              have k19 : own_J p e below s₁ m 53 #[.val (.int cv)] [(.int (1 : Int32))] B_ := fun t_ hh => k18 t_ (by
                refine XS.icmpNo X0.here hx rfl (hb hby own_h61) rfl (own_icF_ne c45) ?_
                refine XS.iconst X0.here hx rfl (hb hby own_h56) ?_
                refine XS.goto X0.here hx rfl (pc0 := 49) (pc' := 53) rfl (hb hby own_h57) (by decide) (by decide) ?_
                exact hh)
              clear k18
              obtain ⟨fs, hr, hrun, hended, hW, hsame⟩ := X0.leave (v := some (.int (1 : Int32))) (fun h => by rw [Bd.returns] at h; cases h)
              refine ⟨_, _, (own_from hB_ (k19 _ (retN X0 hx (t := .boolean) Bd.returns (by simp) (hb hby own_h58) hr))), hrun, hended, _, _, rfl, ?_, ⟨_, rfl⟩, hW, hsame.mono (own_l rfl) (own_l rfl)⟩
              show QI (1 : Int32) h0 n0 _ s₁.heap _
              rw [e0]
              exact ⟨rfl, N0, rfl⟩
            ·
              exact (own_dead hok (Or.inl c3) (Or.inr c21) (Or.inl c27) c39 c45).elim
        ·
          have k20 : own_J p e below s₁ m 33 #[.val (.int cv)] [(.int (57 : Int32)), (.int cv)] B_ := fun t_ hh => k15 t_ (by
            refine XS.icmpNo X0.here hx rfl (hb hby own_h52) rfl (own_icF_lt c27) ?_
            refine XS.iloadN X0.here hx rfl (hb hby own_h62) rfl ?_
            refine XS.bipush X0.here hx rfl (hb hby own_h63) ?_
            exact hh)
          clear k15
          by_cases c33 : (57 : Int32) < cv
          ·
            have k21 : own_J p e below s₁ m 39 #[.val (.int cv)] [(.int (95 : Int32)), (.int cv)] B_ := fun t_ hh => k20 t_ (by
              refine XS.icmpNo X0.here hx rfl (hb hby own_h64) rfl (own_icF_le c33) ?_
              refine XS.iloadN X0.here hx rfl (hb hby own_h53) rfl ?_
              refine XS.bipush X0.here hx rfl (hb hby own_h54) ?_
              exact hh)
            clear k20
            by_cases c39 : cv = (95 : Int32)
            ·
              have k22 : own_J p e below s₁ m 53 #[.val (.int cv)] [(.int (1 : Int32))] B_ := fun t_ hh => k21 t_ (by
                refine XS.icmpYes X0.here hx rfl (pc0 := 39) (pc' := 48) rfl (hb hby own_h55) rfl (own_icT_eq c39) (by decide) (by decide) ?_
                refine XS.iconst X0.here hx rfl (hb hby own_h56) ?_
                refine XS.goto X0.here hx rfl (pc0 := 49) (pc' := 53) rfl (hb hby own_h57) (by decide) (by decide) ?_
                exact hh)
              clear k21
              obtain ⟨fs, hr, hrun, hended, hW, hsame⟩ := X0.leave (v := some (.int (1 : Int32))) (fun h => by rw [Bd.returns] at h; cases h)
              refine ⟨_, _, (own_from hB_ (k22 _ (retN X0 hx (t := .boolean) Bd.returns (by simp) (hb hby own_h58) hr))), hrun, hended, _, _, rfl, ?_, ⟨_, rfl⟩, hW, hsame.mono (own_l rfl) (own_l rfl)⟩
              show QI (1 : Int32) h0 n0 _ s₁.heap _
              rw [e0]
              exact ⟨rfl, N0, rfl⟩
            ·
              have k23 : own_J p e below s₁ m 45 #[.val (.int cv)] [(.int (45 : Int32)), (.int cv)] B_ := fun t_ hh => k21 t_ (by
                refine XS.icmpNo X0.here hx rfl (hb hby own_h55) rfl (own_icF_eq c39) ?_
                refine XS.iloadN X0.here hx rfl (hb hby own_h59) rfl ?_
                refine XS.bipush X0.here hx rfl (hb hby own_h60) ?_
                exact hh)
              clear k21
              by_cases c45 : cv = (45 : Int32)
              ·
                have k24 : own_J p e below s₁ m 53 #[.val (.int cv)] [(.int (1 : Int32))] B_ := fun t_ hh => k23 t_ (by
                  refine XS.icmpNo X0.here hx rfl (hb hby own_h61) rfl (own_icF_ne c45) ?_
                  refine XS.iconst X0.here hx rfl (hb hby own_h56) ?_
                  refine XS.goto X0.here hx rfl (pc0 := 49) (pc' := 53) rfl (hb hby own_h57) (by decide) (by decide) ?_
                  exact hh)
                clear k23
                obtain ⟨fs, hr, hrun, hended, hW, hsame⟩ := X0.leave (v := some (.int (1 : Int32))) (fun h => by rw [Bd.returns] at h; cases h)
                refine ⟨_, _, (own_from hB_ (k24 _ (retN X0 hx (t := .boolean) Bd.returns (by simp) (hb hby own_h58) hr))), hrun, hended, _, _, rfl, ?_, ⟨_, rfl⟩, hW, hsame.mono (own_l rfl) (own_l rfl)⟩
                show QI (1 : Int32) h0 n0 _ s₁.heap _
                rw [e0]
                exact ⟨rfl, N0, rfl⟩
              ·
                exact (own_dead hok (Or.inl c3) (Or.inr c21) (Or.inr c33) c39 c45).elim
          ·
            have k25 : own_J p e below s₁ m 53 #[.val (.int cv)] [(.int (1 : Int32))] B_ := fun t_ hh => k20 t_ (by
              refine XS.icmpYes X0.here hx rfl (pc0 := 33) (pc' := 48) rfl (hb hby own_h64) rfl (own_icT_le c33) (by decide) (by decide) ?_
              refine XS.iconst X0.here hx rfl (hb hby own_h56) ?_
              refine XS.goto X0.here hx rfl (pc0 := 49) (pc' := 53) rfl (hb hby own_h57) (by decide) (by decide) ?_
              exact hh)
            clear k20
            obtain ⟨fs, hr, hrun, hended, hW, hsame⟩ := X0.leave (v := some (.int (1 : Int32))) (fun h => by rw [Bd.returns] at h; cases h)
            refine ⟨_, _, (own_from hB_ (k25 _ (retN X0 hx (t := .boolean) Bd.returns (by simp) (hb hby own_h58) hr))), hrun, hended, _, _, rfl, ?_, ⟨_, rfl⟩, hW, hsame.mono (own_l rfl) (own_l rfl)⟩
            show QI (1 : Int32) h0 n0 _ s₁.heap _
            rw [e0]
            exact ⟨rfl, N0, rfl⟩
      ·
        have k26 : own_J p e below s₁ m 53 #[.val (.int cv)] [(.int (1 : Int32))] B_ := fun t_ hh => k14 t_ (by
          refine XS.icmpYes X0.here hx rfl (pc0 := 21) (pc' := 48) rfl (hb hby own_h67) rfl (own_icT_le c21) (by decide) (by decide) ?_
          refine XS.iconst X0.here hx rfl (hb hby own_h56) ?_
          refine XS.goto X0.here hx rfl (pc0 := 49) (pc' := 53) rfl (hb hby own_h57) (by decide) (by decide) ?_
          exact hh)
        clear k14
        obtain ⟨fs, hr, hrun, hended, hW, hsame⟩ := X0.leave (v := some (.int (1 : Int32))) (fun h => by rw [Bd.returns] at h; cases h)
        refine ⟨_, _, (own_from hB_ (k26 _ (retN X0 hx (t := .boolean) Bd.returns (by simp) (hb hby own_h58) hr))), hrun, hended, _, _, rfl, ?_, ⟨_, rfl⟩, hW, hsame.mono (own_l rfl) (own_l rfl)⟩
        show QI (1 : Int32) h0 n0 _ s₁.heap _
        rw [e0]
        exact ⟨rfl, N0, rfl⟩
  ·
    have k27 : own_J p e below s₁ m 9 #[.val (.int cv)] [(.int (122 : Int32)), (.int cv)] B_ := fun t_ hh => k1 t_ (by
      refine XS.icmpNo X0.here hx rfl (hb hby own_h46) rfl (own_icF_lt c3) ?_
      refine XS.iloadN X0.here hx rfl (hb hby own_h68) rfl ?_
      refine XS.bipush X0.here hx rfl (hb hby own_h69) ?_
      exact hh)
    clear k1
    by_cases c9 : (122 : Int32) < cv
    ·
      have k28 : own_J p e below s₁ m 15 #[.val (.int cv)] [(.int (65 : Int32)), (.int cv)] B_ := fun t_ hh => k27 t_ (by
        refine XS.icmpNo X0.here hx rfl (hb hby own_h70) rfl (own_icF_le c9) ?_
        refine XS.iloadN X0.here hx rfl (hb hby own_h47) rfl ?_
        refine XS.bipush X0.here hx rfl (hb hby own_h48) ?_
        exact hh)
      clear k27
      by_cases c15 : cv < (65 : Int32)
      ·
        have k29 : own_J p e below s₁ m 27 #[.val (.int cv)] [(.int (48 : Int32)), (.int cv)] B_ := fun t_ hh => k28 t_ (by
          refine XS.icmpYes X0.here hx rfl (pc0 := 15) (pc' := 24) rfl (hb hby own_h49) rfl (own_icT_lt c15) (by decide) (by decide) ?_
          refine XS.iloadN X0.here hx rfl (hb hby own_h50) rfl ?_
          refine XS.bipush X0.here hx rfl (hb hby own_h51) ?_
          exact hh)
        clear k28
        by_cases c27 : cv < (48 : Int32)
        ·
          have k30 : own_J p e below s₁ m 39 #[.val (.int cv)] [(.int (95 : Int32)), (.int cv)] B_ := fun t_ hh => k29 t_ (by
            refine XS.icmpYes X0.here hx rfl (pc0 := 27) (pc' := 36) rfl (hb hby own_h52) rfl (own_icT_lt c27) (by decide) (by decide) ?_
            refine XS.iloadN X0.here hx rfl (hb hby own_h53) rfl ?_
            refine XS.bipush X0.here hx rfl (hb hby own_h54) ?_
            exact hh)
          clear k29
          by_cases c39 : cv = (95 : Int32)
          ·
            have k31 : own_J p e below s₁ m 53 #[.val (.int cv)] [(.int (1 : Int32))] B_ := fun t_ hh => k30 t_ (by
              refine XS.icmpYes X0.here hx rfl (pc0 := 39) (pc' := 48) rfl (hb hby own_h55) rfl (own_icT_eq c39) (by decide) (by decide) ?_
              refine XS.iconst X0.here hx rfl (hb hby own_h56) ?_
              refine XS.goto X0.here hx rfl (pc0 := 49) (pc' := 53) rfl (hb hby own_h57) (by decide) (by decide) ?_
              exact hh)
            clear k30
            obtain ⟨fs, hr, hrun, hended, hW, hsame⟩ := X0.leave (v := some (.int (1 : Int32))) (fun h => by rw [Bd.returns] at h; cases h)
            refine ⟨_, _, (own_from hB_ (k31 _ (retN X0 hx (t := .boolean) Bd.returns (by simp) (hb hby own_h58) hr))), hrun, hended, _, _, rfl, ?_, ⟨_, rfl⟩, hW, hsame.mono (own_l rfl) (own_l rfl)⟩
            show QI (1 : Int32) h0 n0 _ s₁.heap _
            rw [e0]
            exact ⟨rfl, N0, rfl⟩
          ·
            have k32 : own_J p e below s₁ m 45 #[.val (.int cv)] [(.int (45 : Int32)), (.int cv)] B_ := fun t_ hh => k30 t_ (by
              refine XS.icmpNo X0.here hx rfl (hb hby own_h55) rfl (own_icF_eq c39) ?_
              refine XS.iloadN X0.here hx rfl (hb hby own_h59) rfl ?_
              refine XS.bipush X0.here hx rfl (hb hby own_h60) ?_
              exact hh)
            clear k30
            by_cases c45 : cv = (45 : Int32)
            ·
              have k33 : own_J p e below s₁ m 53 #[.val (.int cv)] [(.int (1 : Int32))] B_ := fun t_ hh => k32 t_ (by
                refine XS.icmpNo X0.here hx rfl (hb hby own_h61) rfl (own_icF_ne c45) ?_
                refine XS.iconst X0.here hx rfl (hb hby own_h56) ?_
                refine XS.goto X0.here hx rfl (pc0 := 49) (pc' := 53) rfl (hb hby own_h57) (by decide) (by decide) ?_
                exact hh)
              clear k32
              obtain ⟨fs, hr, hrun, hended, hW, hsame⟩ := X0.leave (v := some (.int (1 : Int32))) (fun h => by rw [Bd.returns] at h; cases h)
              refine ⟨_, _, (own_from hB_ (k33 _ (retN X0 hx (t := .boolean) Bd.returns (by simp) (hb hby own_h58) hr))), hrun, hended, _, _, rfl, ?_, ⟨_, rfl⟩, hW, hsame.mono (own_l rfl) (own_l rfl)⟩
              show QI (1 : Int32) h0 n0 _ s₁.heap _
              rw [e0]
              exact ⟨rfl, N0, rfl⟩
            ·
              exact (own_dead hok (Or.inr c9) (Or.inl c15) (Or.inl c27) c39 c45).elim
        ·
          have k34 : own_J p e below s₁ m 33 #[.val (.int cv)] [(.int (57 : Int32)), (.int cv)] B_ := fun t_ hh => k29 t_ (by
            refine XS.icmpNo X0.here hx rfl (hb hby own_h52) rfl (own_icF_lt c27) ?_
            refine XS.iloadN X0.here hx rfl (hb hby own_h62) rfl ?_
            refine XS.bipush X0.here hx rfl (hb hby own_h63) ?_
            exact hh)
          clear k29
          by_cases c33 : (57 : Int32) < cv
          ·
            have k35 : own_J p e below s₁ m 39 #[.val (.int cv)] [(.int (95 : Int32)), (.int cv)] B_ := fun t_ hh => k34 t_ (by
              refine XS.icmpNo X0.here hx rfl (hb hby own_h64) rfl (own_icF_le c33) ?_
              refine XS.iloadN X0.here hx rfl (hb hby own_h53) rfl ?_
              refine XS.bipush X0.here hx rfl (hb hby own_h54) ?_
              exact hh)
            clear k34
            by_cases c39 : cv = (95 : Int32)
            ·
              have k36 : own_J p e below s₁ m 53 #[.val (.int cv)] [(.int (1 : Int32))] B_ := fun t_ hh => k35 t_ (by
                refine XS.icmpYes X0.here hx rfl (pc0 := 39) (pc' := 48) rfl (hb hby own_h55) rfl (own_icT_eq c39) (by decide) (by decide) ?_
                refine XS.iconst X0.here hx rfl (hb hby own_h56) ?_
                refine XS.goto X0.here hx rfl (pc0 := 49) (pc' := 53) rfl (hb hby own_h57) (by decide) (by decide) ?_
                exact hh)
              clear k35
              obtain ⟨fs, hr, hrun, hended, hW, hsame⟩ := X0.leave (v := some (.int (1 : Int32))) (fun h => by rw [Bd.returns] at h; cases h)
              refine ⟨_, _, (own_from hB_ (k36 _ (retN X0 hx (t := .boolean) Bd.returns (by simp) (hb hby own_h58) hr))), hrun, hended, _, _, rfl, ?_, ⟨_, rfl⟩, hW, hsame.mono (own_l rfl) (own_l rfl)⟩
              show QI (1 : Int32) h0 n0 _ s₁.heap _
              rw [e0]
              exact ⟨rfl, N0, rfl⟩
            ·
              have k37 : own_J p e below s₁ m 45 #[.val (.int cv)] [(.int (45 : Int32)), (.int cv)] B_ := fun t_ hh => k35 t_ (by
                refine XS.icmpNo X0.here hx rfl (hb hby own_h55) rfl (own_icF_eq c39) ?_
                refine XS.iloadN X0.here hx rfl (hb hby own_h59) rfl ?_
                refine XS.bipush X0.here hx rfl (hb hby own_h60) ?_
                exact hh)
              clear k35
              by_cases c45 : cv = (45 : Int32)
              ·
                have k38 : own_J p e below s₁ m 53 #[.val (.int cv)] [(.int (1 : Int32))] B_ := fun t_ hh => k37 t_ (by
                  refine XS.icmpNo X0.here hx rfl (hb hby own_h61) rfl (own_icF_ne c45) ?_
                  refine XS.iconst X0.here hx rfl (hb hby own_h56) ?_
                  refine XS.goto X0.here hx rfl (pc0 := 49) (pc' := 53) rfl (hb hby own_h57) (by decide) (by decide) ?_
                  exact hh)
                clear k37
                obtain ⟨fs, hr, hrun, hended, hW, hsame⟩ := X0.leave (v := some (.int (1 : Int32))) (fun h => by rw [Bd.returns] at h; cases h)
                refine ⟨_, _, (own_from hB_ (k38 _ (retN X0 hx (t := .boolean) Bd.returns (by simp) (hb hby own_h58) hr))), hrun, hended, _, _, rfl, ?_, ⟨_, rfl⟩, hW, hsame.mono (own_l rfl) (own_l rfl)⟩
                show QI (1 : Int32) h0 n0 _ s₁.heap _
                rw [e0]
                exact ⟨rfl, N0, rfl⟩
              ·
                exact (own_dead hok (Or.inr c9) (Or.inl c15) (Or.inr c33) c39 c45).elim
          ·
            have k39 : own_J p e below s₁ m 53 #[.val (.int cv)] [(.int (1 : Int32))] B_ := fun t_ hh => k34 t_ (by
              refine XS.icmpYes X0.here hx rfl (pc0 := 33) (pc' := 48) rfl (hb hby own_h64) rfl (own_icT_le c33) (by decide) (by decide) ?_
              refine XS.iconst X0.here hx rfl (hb hby own_h56) ?_
              refine XS.goto X0.here hx rfl (pc0 := 49) (pc' := 53) rfl (hb hby own_h57) (by decide) (by decide) ?_
              exact hh)
            clear k34
            obtain ⟨fs, hr, hrun, hended, hW, hsame⟩ := X0.leave (v := some (.int (1 : Int32))) (fun h => by rw [Bd.returns] at h; cases h)
            refine ⟨_, _, (own_from hB_ (k39 _ (retN X0 hx (t := .boolean) Bd.returns (by simp) (hb hby own_h58) hr))), hrun, hended, _, _, rfl, ?_, ⟨_, rfl⟩, hW, hsame.mono (own_l rfl) (own_l rfl)⟩
            show QI (1 : Int32) h0 n0 _ s₁.heap _
            rw [e0]
            exact ⟨rfl, N0, rfl⟩
      ·
        have k40 : own_J p e below s₁ m 21 #[.val (.int cv)] [(.int (90 : Int32)), (.int cv)] B_ := fun t_ hh => k28 t_ (by
          refine XS.icmpNo X0.here hx rfl (hb hby own_h49) rfl (own_icF_lt c15) ?_
          refine XS.iloadN X0.here hx rfl (hb hby own_h65) rfl ?_
          refine XS.bipush X0.here hx rfl (hb hby own_h66) ?_
          exact hh)
        clear k28
        by_cases c21 : (90 : Int32) < cv
        ·
          have k41 : own_J p e below s₁ m 27 #[.val (.int cv)] [(.int (48 : Int32)), (.int cv)] B_ := fun t_ hh => k40 t_ (by
            refine XS.icmpNo X0.here hx rfl (hb hby own_h67) rfl (own_icF_le c21) ?_
            refine XS.iloadN X0.here hx rfl (hb hby own_h50) rfl ?_
            refine XS.bipush X0.here hx rfl (hb hby own_h51) ?_
            exact hh)
          clear k40
          by_cases c27 : cv < (48 : Int32)
          ·
            have k42 : own_J p e below s₁ m 39 #[.val (.int cv)] [(.int (95 : Int32)), (.int cv)] B_ := fun t_ hh => k41 t_ (by
              refine XS.icmpYes X0.here hx rfl (pc0 := 27) (pc' := 36) rfl (hb hby own_h52) rfl (own_icT_lt c27) (by decide) (by decide) ?_
              refine XS.iloadN X0.here hx rfl (hb hby own_h53) rfl ?_
              refine XS.bipush X0.here hx rfl (hb hby own_h54) ?_
              exact hh)
            clear k41
            by_cases c39 : cv = (95 : Int32)
            ·
              have k43 : own_J p e below s₁ m 53 #[.val (.int cv)] [(.int (1 : Int32))] B_ := fun t_ hh => k42 t_ (by
                refine XS.icmpYes X0.here hx rfl (pc0 := 39) (pc' := 48) rfl (hb hby own_h55) rfl (own_icT_eq c39) (by decide) (by decide) ?_
                refine XS.iconst X0.here hx rfl (hb hby own_h56) ?_
                refine XS.goto X0.here hx rfl (pc0 := 49) (pc' := 53) rfl (hb hby own_h57) (by decide) (by decide) ?_
                exact hh)
              clear k42
              obtain ⟨fs, hr, hrun, hended, hW, hsame⟩ := X0.leave (v := some (.int (1 : Int32))) (fun h => by rw [Bd.returns] at h; cases h)
              refine ⟨_, _, (own_from hB_ (k43 _ (retN X0 hx (t := .boolean) Bd.returns (by simp) (hb hby own_h58) hr))), hrun, hended, _, _, rfl, ?_, ⟨_, rfl⟩, hW, hsame.mono (own_l rfl) (own_l rfl)⟩
              show QI (1 : Int32) h0 n0 _ s₁.heap _
              rw [e0]
              exact ⟨rfl, N0, rfl⟩
            ·
              have k44 : own_J p e below s₁ m 45 #[.val (.int cv)] [(.int (45 : Int32)), (.int cv)] B_ := fun t_ hh => k42 t_ (by
                refine XS.icmpNo X0.here hx rfl (hb hby own_h55) rfl (own_icF_eq c39) ?_
                refine XS.iloadN X0.here hx rfl (hb hby own_h59) rfl ?_
                refine XS.bipush X0.here hx rfl (hb hby own_h60) ?_
                exact hh)
              clear k42
              by_cases c45 : cv = (45 : Int32)
              ·
                have k45 : own_J p e below s₁ m 53 #[.val (.int cv)] [(.int (1 : Int32))] B_ := fun t_ hh => k44 t_ (by
                  refine XS.icmpNo X0.here hx rfl (hb hby own_h61) rfl (own_icF_ne c45) ?_
                  refine XS.iconst X0.here hx rfl (hb hby own_h56) ?_
                  refine XS.goto X0.here hx rfl (pc0 := 49) (pc' := 53) rfl (hb hby own_h57) (by decide) (by decide) ?_
                  exact hh)
                clear k44
                obtain ⟨fs, hr, hrun, hended, hW, hsame⟩ := X0.leave (v := some (.int (1 : Int32))) (fun h => by rw [Bd.returns] at h; cases h)
                refine ⟨_, _, (own_from hB_ (k45 _ (retN X0 hx (t := .boolean) Bd.returns (by simp) (hb hby own_h58) hr))), hrun, hended, _, _, rfl, ?_, ⟨_, rfl⟩, hW, hsame.mono (own_l rfl) (own_l rfl)⟩
                show QI (1 : Int32) h0 n0 _ s₁.heap _
                rw [e0]
                exact ⟨rfl, N0, rfl⟩
              ·
                exact (own_dead hok (Or.inr c9) (Or.inr c21) (Or.inl c27) c39 c45).elim
          ·
            have k46 : own_J p e below s₁ m 33 #[.val (.int cv)] [(.int (57 : Int32)), (.int cv)] B_ := fun t_ hh => k41 t_ (by
              refine XS.icmpNo X0.here hx rfl (hb hby own_h52) rfl (own_icF_lt c27) ?_
              refine XS.iloadN X0.here hx rfl (hb hby own_h62) rfl ?_
              refine XS.bipush X0.here hx rfl (hb hby own_h63) ?_
              exact hh)
            clear k41
            by_cases c33 : (57 : Int32) < cv
            ·
              have k47 : own_J p e below s₁ m 39 #[.val (.int cv)] [(.int (95 : Int32)), (.int cv)] B_ := fun t_ hh => k46 t_ (by
                refine XS.icmpNo X0.here hx rfl (hb hby own_h64) rfl (own_icF_le c33) ?_
                refine XS.iloadN X0.here hx rfl (hb hby own_h53) rfl ?_
                refine XS.bipush X0.here hx rfl (hb hby own_h54) ?_
                exact hh)
              clear k46
              by_cases c39 : cv = (95 : Int32)
              ·
                have k48 : own_J p e below s₁ m 53 #[.val (.int cv)] [(.int (1 : Int32))] B_ := fun t_ hh => k47 t_ (by
                  refine XS.icmpYes X0.here hx rfl (pc0 := 39) (pc' := 48) rfl (hb hby own_h55) rfl (own_icT_eq c39) (by decide) (by decide) ?_
                  refine XS.iconst X0.here hx rfl (hb hby own_h56) ?_
                  refine XS.goto X0.here hx rfl (pc0 := 49) (pc' := 53) rfl (hb hby own_h57) (by decide) (by decide) ?_
                  exact hh)
                clear k47
                obtain ⟨fs, hr, hrun, hended, hW, hsame⟩ := X0.leave (v := some (.int (1 : Int32))) (fun h => by rw [Bd.returns] at h; cases h)
                refine ⟨_, _, (own_from hB_ (k48 _ (retN X0 hx (t := .boolean) Bd.returns (by simp) (hb hby own_h58) hr))), hrun, hended, _, _, rfl, ?_, ⟨_, rfl⟩, hW, hsame.mono (own_l rfl) (own_l rfl)⟩
                show QI (1 : Int32) h0 n0 _ s₁.heap _
                rw [e0]
                exact ⟨rfl, N0, rfl⟩
              ·
                have k49 : own_J p e below s₁ m 45 #[.val (.int cv)] [(.int (45 : Int32)), (.int cv)] B_ := fun t_ hh => k47 t_ (by
                  refine XS.icmpNo X0.here hx rfl (hb hby own_h55) rfl (own_icF_eq c39) ?_
                  refine XS.iloadN X0.here hx rfl (hb hby own_h59) rfl ?_
                  refine XS.bipush X0.here hx rfl (hb hby own_h60) ?_
                  exact hh)
                clear k47
                by_cases c45 : cv = (45 : Int32)
                ·
                  have k50 : own_J p e below s₁ m 53 #[.val (.int cv)] [(.int (1 : Int32))] B_ := fun t_ hh => k49 t_ (by
                    refine XS.icmpNo X0.here hx rfl (hb hby own_h61) rfl (own_icF_ne c45) ?_
                    refine XS.iconst X0.here hx rfl (hb hby own_h56) ?_
                    refine XS.goto X0.here hx rfl (pc0 := 49) (pc' := 53) rfl (hb hby own_h57) (by decide) (by decide) ?_
                    exact hh)
                  clear k49
                  obtain ⟨fs, hr, hrun, hended, hW, hsame⟩ := X0.leave (v := some (.int (1 : Int32))) (fun h => by rw [Bd.returns] at h; cases h)
                  refine ⟨_, _, (own_from hB_ (k50 _ (retN X0 hx (t := .boolean) Bd.returns (by simp) (hb hby own_h58) hr))), hrun, hended, _, _, rfl, ?_, ⟨_, rfl⟩, hW, hsame.mono (own_l rfl) (own_l rfl)⟩
                  show QI (1 : Int32) h0 n0 _ s₁.heap _
                  rw [e0]
                  exact ⟨rfl, N0, rfl⟩
                ·
                  exact (own_dead hok (Or.inr c9) (Or.inr c21) (Or.inr c33) c39 c45).elim
            ·
              have k51 : own_J p e below s₁ m 53 #[.val (.int cv)] [(.int (1 : Int32))] B_ := fun t_ hh => k46 t_ (by
                refine XS.icmpYes X0.here hx rfl (pc0 := 33) (pc' := 48) rfl (hb hby own_h64) rfl (own_icT_le c33) (by decide) (by decide) ?_
                refine XS.iconst X0.here hx rfl (hb hby own_h56) ?_
                refine XS.goto X0.here hx rfl (pc0 := 49) (pc' := 53) rfl (hb hby own_h57) (by decide) (by decide) ?_
                exact hh)
              clear k46
              obtain ⟨fs, hr, hrun, hended, hW, hsame⟩ := X0.leave (v := some (.int (1 : Int32))) (fun h => by rw [Bd.returns] at h; cases h)
              refine ⟨_, _, (own_from hB_ (k51 _ (retN X0 hx (t := .boolean) Bd.returns (by simp) (hb hby own_h58) hr))), hrun, hended, _, _, rfl, ?_, ⟨_, rfl⟩, hW, hsame.mono (own_l rfl) (own_l rfl)⟩
              show QI (1 : Int32) h0 n0 _ s₁.heap _
              rw [e0]
              exact ⟨rfl, N0, rfl⟩
        ·
          have k52 : own_J p e below s₁ m 53 #[.val (.int cv)] [(.int (1 : Int32))] B_ := fun t_ hh => k40 t_ (by
            refine XS.icmpYes X0.here hx rfl (pc0 := 21) (pc' := 48) rfl (hb hby own_h67) rfl (own_icT_le c21) (by decide) (by decide) ?_
            refine XS.iconst X0.here hx rfl (hb hby own_h56) ?_
            refine XS.goto X0.here hx rfl (pc0 := 49) (pc' := 53) rfl (hb hby own_h57) (by decide) (by decide) ?_
            exact hh)
          clear k40
          obtain ⟨fs, hr, hrun, hended, hW, hsame⟩ := X0.leave (v := some (.int (1 : Int32))) (fun h => by rw [Bd.returns] at h; cases h)
          refine ⟨_, _, (own_from hB_ (k52 _ (retN X0 hx (t := .boolean) Bd.returns (by simp) (hb hby own_h58) hr))), hrun, hended, _, _, rfl, ?_, ⟨_, rfl⟩, hW, hsame.mono (own_l rfl) (own_l rfl)⟩
          show QI (1 : Int32) h0 n0 _ s₁.heap _
          rw [e0]
          exact ⟨rfl, N0, rfl⟩
    ·
      have k53 : own_J p e below s₁ m 53 #[.val (.int cv)] [(.int (1 : Int32))] B_ := fun t_ hh => k27 t_ (by
        refine XS.icmpYes X0.here hx rfl (pc0 := 9) (pc' := 48) rfl (hb hby own_h70) rfl (own_icT_le c9) (by decide) (by decide) ?_
        refine XS.iconst X0.here hx rfl (hb hby own_h56) ?_
        refine XS.goto X0.here hx rfl (pc0 := 49) (pc' := 53) rfl (hb hby own_h57) (by decide) (by decide) ?_
        exact hh)
      clear k27
      obtain ⟨fs, hr, hrun, hended, hW, hsame⟩ := X0.leave (v := some (.int (1 : Int32))) (fun h => by rw [Bd.returns] at h; cases h)
      refine ⟨_, _, (own_from hB_ (k53 _ (retN X0 hx (t := .boolean) Bd.returns (by simp) (hb hby own_h58) hr))), hrun, hended, _, _, rfl, ?_, ⟨_, rfl⟩, hW, hsame.mono (own_l rfl) (own_l rfl)⟩
      show QI (1 : Int32) h0 n0 _ s₁.heap _
      rw [e0]
      exact ⟨rfl, N0, rfl⟩
theorem own_h71 : plainName "java/util/Objects" = true := by first | (simp [plainName, overriddenIn]; done) | decide +kernel
theorem own_h72 : decode jdk_31_method_11_code 0 = .ok (.aload_n 0, 1) := by decide +kernel
theorem own_h73 : decode jdk_31_method_11_code 1 = .ok (.ifnonnull 12, 3) := by decide +kernel
theorem own_h74 : decode jdk_31_method_11_code 13 = .ok (.aload_n 0, 1) := by decide +kernel
theorem own_h75 : decode jdk_31_method_11_code 14 = .ok (.areturn, 1) := by decide +kernel
theorem rmNn (l : Launch) (Z : State) (a0 : Array Value) (hw : ∀ d ∈ tables_1, d.before a0 Z = true) (ws : List Jvm.Cond) (ra sa : Addr) (h0 : Heap) (n0 : Nat) (Z0 : n0 ≤ h0.size) :
    own_Met l (⟨"java/util/Objects", "requireNonNull", "(Ljava/lang/Object;Ljava/lang/String;)Ljava/lang/Object;"⟩ : MethodName) jdk_31_method_11_code 2 (some (.object "java/lang/Object")) ws (rO 0 0 0 0) #[(.ref ra), (.ref sa)] Z h0 (QR ra h0 n0) := by
  refine MetFree.of_bodySF (plainFor_of_name own_h71) hisR ?_
  intro p e s m args below meth c s₁ Bd hml0 hP hK
  obtain ⟨rfl, hZ, hh⟩ := hP
  have hx := Bd.exec
  have hby := Bd.bytes
  have hml : c.maxLocals = 2 := hml0
  have hown : s.vm.findClass "java/util/Objects" = some m.cls := findClass_of_methodNamed Bd.named
  have hnm := (name_of_methodNamed Bd.named Bd.method).1
  have X0 : Stand p l e (rO 0 0 0 0) s m #[(.ref ra), (.ref sa)] below meth c s₁ [] 0 0 := Stand.of_body Bd
  have e0 : s₁.heap = h0 := by rw [← hh, Bd.state]; rfl
  have N0 := Fr.nil n0
  obtain ⟨B_, hB_⟩ : ∃ z, z = s₁.setTop (entryFrame m #[(.ref ra), (.ref sa)] 2) := ⟨_, rfl⟩
  have k0 : own_K p e below (s₁.setTop (mkF m 0 #[.val (.ref ra), .val (.ref sa)] [])) B_ := by rw [hB_]; exact fun t k => castTop (by clear k; first | (simp [entryFrame, mkF, argsToLocals, Value.category, maxLocals]; done) | rfl) k
  have k1 : own_J p e below s₁ m 14 #[.val (.ref ra), .val (.ref sa)] [(.ref ra)] B_ := fun t_ hh => k0 t_ (by
    refine XS.aloadN X0.here hx rfl (hb hby own_h72) rfl rfl ?_
    refine XS.ifnonnullYes X0.here hx rfl (pc0 := 1) (pc' := 13) rfl (hb hby own_h73) rfl (by decide) (by decide) ?_
    refine XS.aloadN X0.here hx rfl (hb hby own_h74) rfl rfl ?_
    exact hh)
  obtain ⟨fs, hr, hrun, hended, hW, hsame⟩ := X0.leave (v := some (.ref ra)) (fun h => by rw [Bd.returns] at h; cases h)
  refine ⟨_, _, (own_from hB_ (k1 _ (retOut X0 hx (t := .object "java/lang/Object") Bd.returns rfl (Or.inr (Or.inr (Or.inr (Or.inr ⟨rfl, rfl, rfl⟩)))) (hb hby own_h75) hr))), hrun, hended, _, _, rfl, ?_, ⟨_, rfl⟩, hW, hsame.mono (own_l rfl) (own_l rfl)⟩
  show QR ra h0 n0 _ s₁.heap _
  rw [e0]
  exact ⟨rfl, N0, rfl⟩
theorem own_h76 : plainName "java/lang/String" = true := by first | (simp [plainName, overriddenIn]; done) | decide +kernel
theorem own_h77 : decode jdk_42_method_66_code 0 = .ok (.aload_n 0, 1) := by decide +kernel
theorem own_h78 : decode jdk_42_method_66_code 1 = .ok (.aload_n 1, 1) := by decide +kernel
theorem own_h79 : decode jdk_42_method_66_code 2 = .ok (.if_acmp .ne 5, 3) := by decide +kernel
theorem own_h80 : decode jdk_42_method_66_code 5 = .ok (.iconst 1, 1) := by decide +kernel
theorem own_h81 : decode jdk_42_method_66_code 6 = .ok (.ireturn, 1) := by decide +kernel
theorem rmEq (l : Launch) (Z : State) (a0 : Array Value) (hw : ∀ d ∈ tables_1, d.before a0 Z = true) (ws : List Jvm.Cond) (a : Addr) (h0 : Heap) (n0 : Nat) (Z0 : n0 ≤ h0.size) :
    own_Met l (⟨"java/lang/String", "equals", "(Ljava/lang/Object;)Z"⟩ : MethodName) jdk_42_method_66_code 3 (some .boolean) ws (rO 0 0 0 0) #[(.ref a), (.ref a)] Z h0 (QI (1 : Int32) h0 n0) := by
  refine MetFree.of_bodySF (plainFor_of_name own_h76) hisR ?_
  intro p e s m args below meth c s₁ Bd hml0 hP hK
  obtain ⟨rfl, hZ, hh⟩ := hP
  have hx := Bd.exec
  have hby := Bd.bytes
  have hml : c.maxLocals = 3 := hml0
  have hown : s.vm.findClass "java/lang/String" = some m.cls := findClass_of_methodNamed Bd.named
  have hnm := (name_of_methodNamed Bd.named Bd.method).1
  have X0 : Stand p l e (rO 0 0 0 0) s m #[(.ref a), (.ref a)] below meth c s₁ [] 0 0 := Stand.of_body Bd
  have e0 : s₁.heap = h0 := by rw [← hh, Bd.state]; rfl
  have N0 := Fr.nil n0
  obtain ⟨B_, hB_⟩ : ∃ z, z = s₁.setTop (entryFrame m #[(.ref a), (.ref a)] 3) := ⟨_, rfl⟩
  have k0 : own_K p e below (s₁.setTop (mkF m 0 #[.val (.ref a), .val (.ref a), .unset] [])) B_ := by rw [hB_]; exact fun t k => castTop (by clear k; first | (simp [entryFrame, mkF, argsToLocals, Value.category, maxLocals]; done) | rfl) k
  have k1 : own_J p e below s₁ m 6 #[.val (.ref a), .val (.ref a), .unset] [(.int (1 : Int32))] B_ := fun t_ hh => k0 t_ (by
    refine XS.aloadN X0.here hx rfl (hb hby own_h77) rfl rfl ?_
    refine XS.aloadN X0.here hx rfl (hb hby own_h78) rfl rfl ?_
    refine RoadKit.acmp X0 hx (g := (mkF m 2 #[.val (.ref a), .val (.ref a), .unset] [(.ref a), (.ref a)])) rfl (x := (.ref a)) (y := (.ref a)) rfl rfl (pc0 := 2) (pc' := 5) (same := true) rfl (hb hby own_h79) rfl (by simp) (by decide) (by decide) ?_
    refine XS.iconst X0.here hx rfl (hb hby own_h80) ?_
    exact hh)
  obtain ⟨fs, hr, hrun, hended, hW, hsame⟩ := X0.leave (v := some (.int (1 : Int32))) (fun h => by rw [Bd.returns] at h; cases h)
  refine ⟨_, _, (own_from hB_ (k1 _ (retN X0 hx (t := .boolean) Bd.returns (by simp) (hb hby own_h81) hr))), hrun, hended, _, _, rfl, ?_, ⟨_, rfl⟩, hW, hsame.mono (own_l rfl) (own_l rfl)⟩
  show QI (1 : Int32) h0 n0 _ s₁.heap _
  rw [e0]
  exact ⟨rfl, N0, rfl⟩
theorem own_h82 : plainName "java/lang/StringLatin1" = true := by first | (simp [plainName, overriddenIn]; done) | decide +kernel
theorem own_h83 : decode jdk_43_method_3_code 0 = .ok (.iload_n 0, 1) := by decide +kernel
theorem own_h84 : decode jdk_43_method_3_code 1 = .ok (.sipush 255, 3) := by decide +kernel
theorem own_h85 : decode jdk_43_method_3_code 4 = .ok (.if_icmp .gt 7, 3) := by decide +kernel
theorem own_h86 : decode jdk_43_method_3_code 7 = .ok (.iconst 1, 1) := by decide +kernel
theorem own_h87 : decode jdk_43_method_3_code 8 = .ok (.goto 4, 3) := by decide +kernel
theorem own_h88 : decode jdk_43_method_3_code 12 = .ok (.ireturn, 1) := by decide +kernel
theorem rmCe (l : Launch) (Z : State) (a0 : Array Value) (hw : ∀ d ∈ tables_1, d.before a0 Z = true) (ws : List Jvm.Cond) (cv : Int32) (h0 : Heap) (n0 : Nat) (Z0 : n0 ≤ h0.size) (hb8 : own_b8 cv) :
    own_Met l (⟨"java/lang/StringLatin1", "canEncode", "(C)Z"⟩ : MethodName) jdk_43_method_3_code 1 (some .boolean) ws (rO 0 0 0 0) #[(.int cv)] Z h0 (QI (1 : Int32) h0 n0) := by
  refine MetFree.of_bodySF (plainFor_of_name own_h82) hisR ?_
  intro p e s m args below meth c s₁ Bd hml0 hP hK
  obtain ⟨rfl, hZ, hh⟩ := hP
  have hx := Bd.exec
  have hby := Bd.bytes
  have hml : c.maxLocals = 1 := hml0
  have hown : s.vm.findClass "java/lang/StringLatin1" = some m.cls := findClass_of_methodNamed Bd.named
  have hnm := (name_of_methodNamed Bd.named Bd.method).1
  have X0 : Stand p l e (rO 0 0 0 0) s m #[(.int cv)] below meth c s₁ [] 0 0 := Stand.of_body Bd
  have e0 : s₁.heap = h0 := by rw [← hh, Bd.state]; rfl
  have N0 := Fr.nil n0
  obtain ⟨B_, hB_⟩ : ∃ z, z = s₁.setTop (entryFrame m #[(.int cv)] 1) := ⟨_, rfl⟩
  have k0 : own_K p e below (s₁.setTop (mkF m 0 #[.val (.int cv)] [])) B_ := by rw [hB_]; exact fun t k => castTop (by clear k; first | (simp [entryFrame, mkF, argsToLocals, Value.category, maxLocals]; done) | rfl) k
  have k1 : own_J p e below s₁ m 12 #[.val (.int cv)] [(.int (1 : Int32))] B_ := fun t_ hh => k0 t_ (by
    refine XS.iloadN X0.here hx rfl (hb hby own_h83) rfl ?_
    refine XS.sipush X0.here hx rfl (hb hby own_h84) ?_
    refine XS.icmpNo X0.here hx rfl (hb hby own_h85) rfl (own_icF_gt hb8.2) ?_
    refine XS.iconst X0.here hx rfl (hb hby own_h86) ?_
    refine XS.goto X0.here hx rfl (pc0 := 8) (pc' := 12) rfl (hb hby own_h87) (by decide) (by decide) ?_
    exact hh)
  obtain ⟨fs, hr, hrun, hended, hW, hsame⟩ := X0.leave (v := some (.int (1 : Int32))) (fun h => by rw [Bd.returns] at h; cases h)
  refine ⟨_, _, (own_from hB_ (k1 _ (retN X0 hx (t := .boolean) Bd.returns (by simp) (hb hby own_h88) hr))), hrun, hended, _, _, rfl, ?_, ⟨_, rfl⟩, hW, hsame.mono (own_l rfl) (own_l rfl)⟩
  show QI (1 : Int32) h0 n0 _ s₁.heap _
  rw [e0]
  exact ⟨rfl, N0, rfl⟩
theorem own_i8 (x : Int32) : x.toInt8.toInt32.toInt8.toInt32 = x.toInt8.toInt32 := by
  have h1 := c_i2b x
  have h2 := c_i2b (x.toInt8.toInt32)
  apply Int32.toInt_inj.mp
  omega
def QTb (Z : State) (cv : Int32) (h0 : Heap) (n0 : Nat) (v : Option Value) (h : Heap) (L : List Loc) : Prop := ∃ (t : Addr) (kb : ClassId), v = some (.ref t) ∧ Fr n0 L ∧ Keep h0 h [] ∧ n0 ≤ t ∧ Arv Z h t kb .byte (1 : Int32) [.int (cv.toInt8.toInt32)] (.int 0)
theorem own_h89 : decode jdk_43_method_46_code 0 = .ok (.iconst 1, 1) := by decide +kernel
theorem own_h90 : decode jdk_43_method_46_code 1 = .ok (.newarray .byte, 2) := by decide +kernel
theorem own_h91 : decode jdk_43_method_46_code 3 = .ok (.dup, 1) := by decide +kernel
theorem own_h92 : decode jdk_43_method_46_code 4 = .ok (.iconst 0, 1) := by decide +kernel
theorem own_h93 : decode jdk_43_method_46_code 5 = .ok (.iload_n 0, 1) := by decide +kernel
theorem own_h94 : decode jdk_43_method_46_code 6 = .ok (.i2b, 1) := by decide +kernel
theorem own_h95 : decode jdk_43_method_46_code 7 = .ok (.bastore, 1) := by decide +kernel
theorem own_h96 : decode jdk_43_method_46_code 8 = .ok (.areturn, 1) := by decide +kernel
theorem rmTb (l : Launch) (Z : State) (a0 : Array Value) (hw : ∀ d ∈ tables_1, d.before a0 Z = true) (ws : List Jvm.Cond) (cv : Int32) (h0 : Heap) (n0 : Nat) (Z0 : n0 ≤ h0.size) :
    own_Met l (⟨"java/lang/StringLatin1", "toBytes", "(C)[B"⟩ : MethodName) jdk_43_method_46_code 1 (some (.array .byte)) ws (rO 0 1 1 0) #[(.int cv)] Z h0 (QTb Z cv h0 n0) := by
  refine MetFree.of_bodySF (plainFor_of_name own_h82) hisR ?_
  intro p e s m args below meth c s₁ Bd hml0 hP hK
  obtain ⟨rfl, hZ, hh⟩ := hP
  have hx := Bd.exec
  have hby := Bd.bytes
  have hml : c.maxLocals = 1 := hml0
  have hown : s.vm.findClass "java/lang/StringLatin1" = some m.cls := findClass_of_methodNamed Bd.named
  have hnm := (name_of_methodNamed Bd.named Bd.method).1
  have X0 : Stand p l e (rO 0 1 1 0) s m #[(.int cv)] below meth c s₁ [] 0 0 := Stand.of_body Bd
  have e0 : s₁.heap = h0 := by rw [← hh, Bd.state]; rfl
  have N0 := Fr.nil n0
  obtain ⟨B_, hB_⟩ : ∃ z, z = s₁.setTop (entryFrame m #[(.int cv)] 1) := ⟨_, rfl⟩
  have k0 : own_K p e below (s₁.setTop (mkF m 0 #[.val (.int cv)] [])) B_ := by rw [hB_]; exact fun t k => castTop (by clear k; first | (simp [entryFrame, mkF, argsToLocals, Value.category, maxLocals]; done) | rfl) k
  have K0 : Keep h0 h0 [] := Keep.refl _ _
  have k1 : own_J p e below s₁ m 1 #[.val (.int cv)] [(.int (1 : Int32))] B_ := fun t_ hh => k0 t_ (by
    refine XS.iconst X0.here hx rfl (hb hby own_h89) ?_
    exact hh)
  obtain ⟨T21, h22, kA23, X24, e25, E26, A27, st29⟩ := newP X0 hx hZ (wT hw 19 rfl) e0 (g := (mkF m 1 #[.val (.int cv)] [(.int (1 : Int32))])) rfl (hb hby own_h90) rfl (by decide) (cap := 1) (by decide) (by decide) (by decide) (by decide)
  obtain ⟨a30, g31⟩ : ∃ z, z = h0.size := ⟨_, rfl⟩
  rw [← g31] at A27 st29
  have H032 : h0.size ≤ a30 := Nat.le_trans K0.1 (Nat.le_of_eq g31.symm)
  have G33 : n0 ≤ a30 := Nat.le_trans Z0 (Nat.le_of_eq g31.symm)
  have Z34 : n0 ≤ h22.size := Nat.le_trans Z0 E26.1
  have P35 : Keep h0 h22 [] := K0.ext E26
  have V36 : Arv Z h22 a30 kA23 .byte (1 : Int32) [(.int (0 : Int32))] (.int (0 : Int32)) := Arv.pad (Arv.new A27 (by decide)) (pad_rep [] (.int (0 : Int32)) 1)
  have k2 : own_J p e below T21 m 3 #[.val (.int cv)] [(.ref a30)] B_ := fun t_ hh => k1 t_ (st29 t_ hh)
  clear k1 st29
  have k3 : own_J p e below T21 m 7 #[.val (.int cv)] [(.int (cv.toInt8.toInt32)), (.int (0 : Int32)), (.ref a30), (.ref a30)] B_ := fun t_ hh => k2 t_ (by
    refine XS.dup X24.here hx rfl (hb hby own_h91) rfl rfl ?_
    refine XS.iconst X24.here hx rfl (hb hby own_h92) ?_
    refine XS.iloadN X24.here hx rfl (hb hby own_h93) rfl ?_
    refine XS.i2b X24.here hx rfl (hb hby own_h94) rfl ?_
    exact hh)
  clear k2
  obtain ⟨cl37, Ar38, q39, S40, Ng41, H42, Gf43⟩ := id V36
  have hin44 := inb_of (j := (0 : Int32)) S40 (by decide)
  obtain ⟨T45, h46, X47, e48, W49, st50⟩ := stB X24 hx hZ e25 Ar38 (j := (0 : Int32)) hin44 (g := (mkF m 7 #[.val (.int cv)] [(.int (cv.toInt8.toInt32)), (.int (0 : Int32)), (.ref a30), (.ref a30)])) rfl rfl (hb hby own_h95)
  have N51 := Fr.snoc X47 N0 G33
  have K52 : Keep h22 h46 [a30] := Keep.of_wr W49
  have V53 := Arv.set Ar38 q39 S40 Ng41 H42 Gf43 (v := (.int ((cv.toInt8.toInt32).toInt8.toInt32))) (fits_nar_byte _) W49 0 rfl (own_lt rfl)
  have k4 : own_J p e below T45 m 8 #[.val (.int cv)] [(.ref a30)] B_ := fun t_ hh => k3 t_ (st50 t_ hh)
  clear k3 st50 X24 e25 cl37 Ar38 q39 S40 Ng41 H42 Gf43 hin44 W49 V36
  have V54 : Arv Z h46 a30 kA23 .byte (1 : Int32) [(.int ((cv.toInt8.toInt32).toInt8.toInt32))] (.int (0 : Int32)) := V53
  have Z55 : n0 ≤ h46.size := Nat.le_trans Z34 K52.1
  have P56 : Keep h0 h46 [] := P35.trans K52 (allS (P := fun x => x ∈ [] ∨ h0.size ≤ x) (Or.inr H032) all0)
  obtain ⟨fs, hr, hrun, hended, hW, hsame⟩ := X47.leave (v := some (.ref a30)) (fun h => by rw [Bd.returns] at h; cases h)
  refine ⟨_, _, (own_from hB_ (k4 _ (retOut X47 hx (t := .array .byte) Bd.returns rfl (Or.inr (Or.inr (Or.inr (Or.inr ⟨rfl, rfl, rfl⟩)))) (hb hby own_h96) hr))), hrun, hended, _, _, rfl, ?_, ⟨_, rfl⟩, hW, hsame.mono (own_l rfl) (own_l rfl)⟩
  show QTb Z cv h0 n0 _ T45.heap _
  rw [e48]
  exact ⟨_, _, rfl, N51, P56, G33, by have q := V54; rw [own_i8] at q; exact q⟩
def QIb (Z : State) (a t : Addr) (h0 : Heap) (n0 : Nat) (v : Option Value) (h : Heap) (L : List Loc) : Prop := v = none ∧ Fr n0 L ∧ Keep h0 h [a] ∧ Exa Z h a "java/lang/String" ∧ Fld Z h a "java/lang/String" "value" "[B" (.ref t) ∧ Fld Z h a "java/lang/String" "coder" "B" (.int (0 : Int32))
theorem own_h97 : decode jdk_42_method_151_code 0 = .ok (.aload_n 0, 1) := by decide +kernel
theorem own_h98 : decode jdk_42_method_151_code 1 = .ok (.invokespecial 1, 3) := by decide +kernel
theorem own_h99 : decode jdk_42_method_151_code 4 = .ok (.aload_n 0, 1) := by decide +kernel
theorem own_h100 : decode jdk_42_method_151_code 5 = .ok (.aload_n 1, 1) := by decide +kernel
theorem own_h101 : decode jdk_42_method_151_code 6 = .ok (.putfield 9, 3) := by decide +kernel
theorem own_h102 : decode jdk_42_method_151_code 9 = .ok (.aload_n 0, 1) := by decide +kernel
theorem own_h103 : decode jdk_42_method_151_code 10 = .ok (.iload_n 2, 1) := by decide +kernel
theorem own_h104 : decode jdk_42_method_151_code 11 = .ok (.putfield 15, 3) := by decide +kernel
theorem own_h105 : decode jdk_42_method_151_code 14 = .ok (.return_, 1) := by decide +kernel
theorem rmIb (l : Launch) (Z : State) (a0 : Array Value) (hw : ∀ d ∈ tables_1, d.before a0 Z = true) (ws : List Jvm.Cond) (a t : Addr) (h0 : Heap) (n0 : Nat) (Z0 : n0 ≤ h0.size) (E1 : Exa Z h0 a "java/lang/String") (g1 : n0 ≤ a) (F1 : Fld Z h0 a "java/lang/String" "value" "[B" .null) (F2 : Fld Z h0 a "java/lang/String" "coder" "B" (.int (0 : Int32))) :
    own_Met l (⟨"java/lang/String", "<init>", "([BB)V"⟩ : MethodName) jdk_42_method_151_code 3 none ws (rO 1 0 0 12) #[(.ref a), (.ref t), (.int (0 : Int32))] Z h0 (QIb Z a t h0 n0) := by
  refine MetFree.of_bodySF (plainFor_of_name own_h76) hisR ?_
  intro p e s m args below meth c s₁ Bd hml0 hP hK
  obtain ⟨rfl, hZ, hh⟩ := hP
  have hx := Bd.exec
  have hby := Bd.bytes
  have hml : c.maxLocals = 3 := hml0
  have hown : s.vm.findClass "java/lang/String" = some m.cls := findClass_of_methodNamed Bd.named
  have hnm := (name_of_methodNamed Bd.named Bd.method).1
  have X0 : Stand p l e (rO 1 0 0 12) s m #[(.ref a), (.ref t), (.int (0 : Int32))] below meth c s₁ [] 0 0 := Stand.of_body Bd
  have e0 : s₁.heap = h0 := by rw [← hh, Bd.state]; rfl
  have N0 := Fr.nil n0
  obtain ⟨B_, hB_⟩ : ∃ z, z = s₁.setTop (entryFrame m #[(.ref a), (.ref t), (.int (0 : Int32))] 3) := ⟨_, rfl⟩
  have k0 : own_K p e below (s₁.setTop (mkF m 0 #[.val (.ref a), .val (.ref t), .val (.int (0 : Int32))] [])) B_ := by rw [hB_]; exact fun t k => castTop (by clear k; first | (simp [entryFrame, mkF, argsToLocals, Value.category, maxLocals]; done) | rfl) k
  have K0 : Keep h0 h0 [a] := Keep.refl _ _
  have k1 : own_J p e below s₁ m 1 #[.val (.ref a), .val (.ref t), .val (.int (0 : Int32))] [(.ref a)] B_ := fun t_ hh => k0 t_ (by
    refine XS.aloadN X0.here hx rfl (hb hby own_h97) rfl rfl ?_
    exact hh)
  obtain ⟨T21, X22, e23, st24⟩ := initO X0 hx hZ hown (wT hw 24 rfl) (wT hw 25 rfl) (wT hw 26 rfl) e0 (g := (mkF m 1 #[.val (.ref a), .val (.ref t), .val (.int (0 : Int32))] [(.ref a)])) rfl (by rw [hml]; rfl) rfl (hb hby own_h98) (by decide) (W := 0) (by show 2 * 0 + _ ≤ _; exact Nat.le_of_eq rfl) (by decide)
  have k2 : own_J p e below T21 m 4 #[.val (.ref a), .val (.ref t), .val (.int (0 : Int32))] [] B_ := fun t_ hh => k1 t_ (st24 t_ hh)
  clear k1 st24
  have k3 : own_J p e below T21 m 6 #[.val (.ref a), .val (.ref t), .val (.int (0 : Int32))] [(.ref t), (.ref a)] B_ := fun t_ hh => k2 t_ (by
    refine XS.aloadN X22.here hx rfl (hb hby own_h99) rfl rfl ?_
    refine XS.aloadN X22.here hx rfl (hb hby own_h100) rfl rfl ?_
    exact hh)
  clear k2
  obtain ⟨T25, h26, X27, e28, W29, st30⟩ := putF X22 hx hZ hown (host := "") (Or.inl (wT hw 27 rfl)) Via.refl e23 F1 E1 (Or.inr ⟨(wT hw 28 rfl), rfl, hnm⟩) (wT hw 15 rfl) (ty := .array .byte) (by decide) rfl rfl (g := (mkF m 6 #[.val (.ref a), .val (.ref t), .val (.int (0 : Int32))] [(.ref t), (.ref a)])) rfl rfl (hb hby own_h101)
  have N31 := Fr.snoc X27 N0 g1
  have F32 := Exa.wr W29 E1
  have F33 : Fld Z h26 a "java/lang/String" "value" "[B" (.ref t) := Fld.same W29 F1
  have F34 := Fld.other W29 F2 (Or.inr (slot_ne (Or.inr (wT hw 30 rfl)) (Or.inr (wT hw 28 rfl)) (by decide) (t := .byte) (t' := (.array .byte)) (by decide) (by decide)))
  have Z35 : n0 ≤ h26.size := W29.size ▸ Z0
  have P36 : Keep h0 h26 [a] := K0.wr W29 (Or.inl (List.mem_of_getElem? (i := 0) rfl))
  have k4 : own_J p e below T25 m 9 #[.val (.ref a), .val (.ref t), .val (.int (0 : Int32))] [] B_ := fun t_ hh => k3 t_ (st30 t_ hh)
  clear k3 st30 X22 e23
  have k5 : own_J p e below T25 m 11 #[.val (.ref a), .val (.ref t), .val (.int (0 : Int32))] [(.int (0 : Int32)), (.ref a)] B_ := fun t_ hh => k4 t_ (by
    refine XS.aloadN X27.here hx rfl (hb hby own_h102) rfl rfl ?_
    refine XS.iloadN X27.here hx rfl (hb hby own_h103) rfl ?_
    exact hh)
  clear k4
  obtain ⟨T37, h38, X39, e40, W41, st42⟩ := putF X27 hx hZ hown (host := "") (Or.inl (wT hw 29 rfl)) Via.refl e28 F34 F32 (Or.inr ⟨(wT hw 30 rfl), rfl, hnm⟩) (wT hw 15 rfl) (ty := .byte) (by decide) rfl rfl (g := (mkF m 11 #[.val (.ref a), .val (.ref t), .val (.int (0 : Int32))] [(.int (0 : Int32)), (.ref a)])) rfl rfl (hb hby own_h104)
  have N43 := Fr.snoc X39 N31 g1
  have F44 := Exa.wr W41 F32
  have F45 := Fld.other W41 F33 (Or.inr (slot_ne (Or.inr (wT hw 28 rfl)) (Or.inr (wT hw 30 rfl)) (by decide) (t := (.array .byte)) (t' := .byte) (by decide) (by decide)))
  have F46 : Fld Z h38 a "java/lang/String" "coder" "B" (.int (0 : Int32)) := Fld.same W41 F34
  have Z47 : n0 ≤ h38.size := W41.size ▸ Z35
  have P48 : Keep h0 h38 [a] := P36.wr W41 (Or.inl (List.mem_of_getElem? (i := 0) rfl))
  have k6 : own_J p e below T37 m 14 #[.val (.ref a), .val (.ref t), .val (.int (0 : Int32))] [] B_ := fun t_ hh => k5 t_ (st42 t_ hh)
  clear k5 st42 X27 e28
  obtain ⟨fs, hr, hrun, hended, hW, hsame⟩ := X39.leave (v := none) (fun _ => rfl)
  refine ⟨_, _, (own_from hB_ (k6 _ (X39.returnOut hx Bd.returns (hb hby own_h105) hr))), hrun, hended, _, _, rfl, ?_, ⟨_, rfl⟩, hW, hsame.mono (own_l rfl) (own_l rfl)⟩
  show QIb Z a t h0 n0 _ T37.heap _
  rw [e40]
  exact ⟨rfl, N43, P48, F44, F45, F46⟩
def QVo (Z : State) (cv : Int32) (h0 : Heap) (n0 : Nat) (v : Option Value) (h : Heap) (L : List Loc) : Prop := ∃ (a t : Addr) (kb : ClassId), v = some (.ref a) ∧ Fr n0 L ∧ Keep h0 h [] ∧ n0 ≤ a ∧ n0 ≤ t ∧ own_Str Z h a t kb [cv]
theorem own_h106 : decode jdk_42_method_139_code 0 = .ok (.getstatic 38, 3) := by decide +kernel
theorem own_h107 : decode jdk_42_method_139_code 3 = .ok (.ifCond .eq 23, 3) := by decide +kernel
theorem own_h108 : decode jdk_42_method_139_code 6 = .ok (.iload_n 0, 1) := by decide +kernel
theorem own_h109 : decode jdk_42_method_139_code 7 = .ok (.invokestatic 1015, 3) := by decide +kernel
theorem own_h110 : parseMethodDescriptor "(C)Z" = some ⟨[.char], some .boolean⟩ := by decide +kernel
theorem own_h111 : decode jdk_42_method_139_code 10 = .ok (.ifCond .eq 16, 3) := by decide +kernel
theorem own_h112 : decode jdk_42_method_139_code 13 = .ok (.new 10, 3) := by decide +kernel
theorem own_h113 : decode jdk_42_method_139_code 16 = .ok (.dup, 1) := by decide +kernel
theorem own_h114 : decode jdk_42_method_139_code 17 = .ok (.iload_n 0, 1) := by decide +kernel
theorem own_h115 : decode jdk_42_method_139_code 18 = .ok (.invokestatic 1018, 3) := by decide +kernel
theorem own_h116 : parseMethodDescriptor "(C)[B" = some ⟨[.char], some (.array .byte)⟩ := by decide +kernel
theorem own_h117 : decode jdk_42_method_139_code 21 = .ok (.iconst 0, 1) := by decide +kernel
theorem own_h118 : decode jdk_42_method_139_code 22 = .ok (.invokespecial 209, 3) := by decide +kernel
theorem own_h119 : parseMethodDescriptor "([BB)V" = some ⟨[.array .byte, .byte], none⟩ := by decide +kernel
theorem own_h120 : decode jdk_42_method_139_code 25 = .ok (.areturn, 1) := by decide +kernel
theorem rmVo (l : Launch) (Z : State) (a0 : Array Value) (hw : ∀ d ∈ tables_1, d.before a0 Z = true) (ws : List Jvm.Cond) (cv : Int32) (h0 : Heap) (n0 : Nat) (Z0 : n0 ≤ h0.size) (hb8 : own_b8 cv) (O0 : Old Z n0 h0) (ci : Int32) (sC : Sta Z Z.heap "java/lang/String" "COMPACT_STRINGS" "Z" (.int ci)) (hc : ¬ ci = 0) :
    own_Met l (⟨"java/lang/String", "valueOf", "(C)Ljava/lang/String;"⟩ : MethodName) jdk_42_method_139_code 1 (some (.object "java/lang/String")) ws (rO 2 2 5 27) #[(.int cv)] Z h0 (QVo Z cv h0 n0) := by
  refine MetFree.of_bodySF (plainFor_of_name own_h76) hisR ?_
  intro p e s m args below meth c s₁ Bd hml0 hP hK
  obtain ⟨rfl, hZ, hh⟩ := hP
  have hx := Bd.exec
  have hby := Bd.bytes
  have hml : c.maxLocals = 1 := hml0
  have hown : s.vm.findClass "java/lang/String" = some m.cls := findClass_of_methodNamed Bd.named
  have hnm := (name_of_methodNamed Bd.named Bd.method).1
  have X0 : Stand p l e (rO 2 2 5 27) s m #[(.int cv)] below meth c s₁ [] 0 0 := Stand.of_body Bd
  have e0 : s₁.heap = h0 := by rw [← hh, Bd.state]; rfl
  have N0 := Fr.nil n0
  obtain ⟨B_, hB_⟩ : ∃ z, z = s₁.setTop (entryFrame m #[(.int cv)] 1) := ⟨_, rfl⟩
  have k0 : own_K p e below (s₁.setTop (mkF m 0 #[.val (.int cv)] [])) B_ := by rw [hB_]; exact fun t k => castTop (by clear k; first | (simp [entryFrame, mkF, argsToLocals, Value.category, maxLocals]; done) | rfl) k
  have K0 : Keep h0 h0 [] := Keep.refl _ _
  obtain ⟨T21, X22, e23, st24⟩ := getS X0 hx hZ hown (host := "") (wT hw 9 rfl) Via.refl e0 (Sta.ext O0.2 sC) (g := (mkF m 0 #[.val (.int cv)] [])) rfl (hb hby own_h106)
  have k1 : own_J p e below T21 m 3 #[.val (.int cv)] [(.int ci)] B_ := fun t_ hh => k0 t_ (st24 t_ hh)
  clear st24
  have k2 : own_J p e below T21 m 7 #[.val (.int cv)] [(.int cv)] B_ := fun t_ hh => k1 t_ (by
    refine XS.ifNo X22.here hx rfl (hb hby own_h107) rfl (own_ifF_eq hc) ?_
    refine XS.iloadN X22.here hx rfl (hb hby own_h108) rfl ?_
    exact hh)
  clear k1
  obtain ⟨_, _, ⟨T25, L26, k_27, n_28⟩, -, X29, ⟨Lc30, hQ31, l_32, y_33, z_34⟩, st35⟩ := Jvm.LawKit.callS X22 hx (y := (⟨"java/lang/StringLatin1", "canEncode", "(C)Z"⟩ : MethodName)) hown (mvT hZ (wT hw 10 rfl)) (mvT hZ (wT hw 11 rfl)) (mvT hZ (wT hw 12 rfl)) (mvT hZ (wT hw 13 rfl)) (by decide) (backOf (W := 0) (rmCe l Z a0 hw [] cv h0 n0 Z0 hb8) hZ (wT hw 13 rfl) (wT hw 12 rfl) (by decide) (by decide)) (g := (mkF m 7 #[.val (.int cv)] [(.int cv)])) rfl (by rw [hml]; rfl) (argsL := [(.int cv)]) (rest := []) (lenOf own_h110 rfl) rfl (by show 2 * 0 + _ ≤ _; exact Nat.le_of_eq rfl) (hb hby own_h109) (fun _ _ => ⟨rfl, e23, own_l rfl, own_l rfl⟩)
  dsimp only [Pt.U, Pt.locs, Pt.cells, Pt.slots] at X29 l_32 y_33 z_34 st35 hQ31
  replace l_32 := l_32.symm
  subst l_32 y_33 z_34
  obtain ⟨rfl, N36, e37⟩ := hQ31
  have N38 := Fr.app N0 N36
  have k3 : own_J p e below T25 m 10 #[.val (.int cv)] [(.int (1 : Int32))] B_ := fun t_ hh => k2 t_ (st35 t_ hh)
  clear k2 st35 X22 e23
  have k4 : own_J p e below T25 m 13 #[.val (.int cv)] [] B_ := fun t_ hh => k3 t_ (by
    refine XS.ifNo X29.here hx rfl (hb hby own_h111) rfl (by decide) ?_
    exact hh)
  clear k3
  obtain ⟨T39, h40, X41, e42, E43, A44, D45, U47, st46⟩ := newO X29 hx hZ hown (wT hw 14 rfl) (wT hw 15 rfl) (wT hw 7 rfl) e37 (g := (mkF m 13 #[.val (.int cv)] [])) rfl (hb hby own_h112) (by decide) (by decide)
  obtain ⟨a48, g49⟩ : ∃ z, z = h0.size := ⟨_, rfl⟩
  rw [← g49] at A44 D45 U47 st46
  have H050 : h0.size ≤ a48 := Nat.le_trans K0.1 (Nat.le_of_eq g49.symm)
  have G51 : n0 ≤ a48 := Nat.le_trans Z0 (Nat.le_of_eq g49.symm)
  have Z52 : n0 ≤ h40.size := Nat.le_trans Z0 E43.1
  have O53 := O0.ext E43
  have P54 : Keep h0 h40 [] := K0.ext E43
  have F55 : Fld Z h40 a48 "java/lang/String" "value" "[B" .null := D45 (Or.inr (wT hw 28 rfl)) (ty := .array .byte) (by decide)
  have F56 : Fld Z h40 a48 "java/lang/String" "coder" "B" (.int (0 : Int32)) := D45 (Or.inr (wT hw 30 rfl)) (ty := .byte) (by decide)
  have k5 : own_J p e below T39 m 16 #[.val (.int cv)] [(.ref a48)] B_ := fun t_ hh => k4 t_ (st46 t_ hh)
  clear k4 st46 X29 e37
  have k6 : own_J p e below T39 m 18 #[.val (.int cv)] [(.int cv), (.ref a48), (.ref a48)] B_ := fun t_ hh => k5 t_ (by
    refine XS.dup X41.here hx rfl (hb hby own_h113) rfl rfl ?_
    refine XS.iloadN X41.here hx rfl (hb hby own_h114) rfl ?_
    exact hh)
  clear k5
  obtain ⟨_, _, ⟨T57, L58, k_59, n_60⟩, -, X61, ⟨Lc62, hQ63, l_64, y_65, z_66⟩, st67⟩ := Jvm.LawKit.callS X41 hx (y := (⟨"java/lang/StringLatin1", "toBytes", "(C)[B"⟩ : MethodName)) hown (mvT hZ (wT hw 16 rfl)) (mvT hZ (wT hw 17 rfl)) (mvT hZ (wT hw 12 rfl)) (mvT hZ (wT hw 18 rfl)) (by decide) (backOf (W := 2) (rmTb l Z a0 hw [] cv h40 n0 Z52) hZ (wT hw 18 rfl) (wT hw 12 rfl) (by decide) (by decide)) (g := (mkF m 18 #[.val (.int cv)] [(.int cv), (.ref a48), (.ref a48)])) rfl (by rw [hml]; rfl) (argsL := [(.int cv)]) (rest := [(.ref a48), (.ref a48)]) (lenOf own_h116 rfl) rfl (by show 2 * 0 + _ ≤ _; exact Nat.le_of_eq rfl) (hb hby own_h115) (fun _ _ => ⟨rfl, e42, own_l rfl, own_l rfl⟩)
  dsimp only [Pt.U, Pt.locs, Pt.cells, Pt.slots] at X61 l_64 y_65 z_66 st67 hQ63
  replace l_64 := l_64.symm
  subst l_64 y_65 z_66
  obtain ⟨t68, kb69, rfl, N70, K71, G72, F73⟩ := hQ63
  have N74 := Fr.app N38 N70
  have F75 := A44.keep K71
  have F76 := F55.keep K71 nin0
  have F77 := F56.keep K71 nin0
  have Z78 : n0 ≤ T57.heap.size := Nat.le_trans Z52 K71.1
  have O79 := O53.keep K71 all0
  have P80 : Keep h0 T57.heap [] := P54.trans K71 (fun _ q => nomatch q)
  have ne81 : a48 ≠ t68 := Exa.neArv F75 F73 (wT hw 15 rfl)
  have e82 : T57.heap = T57.heap := rfl
  have k7 : own_J p e below T57 m 21 #[.val (.int cv)] [(.ref t68), (.ref a48), (.ref a48)] B_ := fun t_ hh => k6 t_ (st67 t_ hh)
  clear k6 st67 X41 e42
  have k8 : own_J p e below T57 m 22 #[.val (.int cv)] [(.int (0 : Int32)), (.ref t68), (.ref a48), (.ref a48)] B_ := fun t_ hh => k7 t_ (by
    refine XS.iconst X61.here hx rfl (hb hby own_h117) ?_
    exact hh)
  clear k7
  obtain ⟨_, _, ⟨T83, L84, k_85, n_86⟩, -, X87, ⟨Lc88, hQ89, l_90, y_91, z_92⟩, st93⟩ := X61.specialBack hx (y := (⟨"java/lang/String", "<init>", "([BB)V"⟩ : MethodName)) rfl hown (mvT hZ (wT hw 20 rfl)) (mvT hZ (wT hw 21 rfl)) (mvT hZ (wT hw 23 rfl)) (by decide) (backOf (W := 1) (rmIb l Z a0 hw [] a48 t68 T57.heap n0 Z78 F75 G51 F76 F77) hZ (wT hw 23 rfl) (wT hw 7 rfl) (by decide) (by decide)) (g := (mkF m 22 #[.val (.int cv)] [(.int (0 : Int32)), (.ref t68), (.ref a48), (.ref a48)])) rfl (by rw [hml]; rfl) (Steps.refl _) (a := a48) (argsL := [(.ref t68), (.int (0 : Int32))]) (rest := [(.ref a48)]) (lenOf own_h119 rfl) rfl (by show 2 * 0 + _ ≤ _; exact Nat.le_of_eq rfl) (hb hby own_h118) (fun _ _ => ⟨rfl, e82, own_l rfl, own_l rfl⟩)
  dsimp only [Pt.U, Pt.locs, Pt.cells, Pt.slots] at X87 l_90 y_91 z_92 st93 hQ89
  replace l_90 := l_90.symm
  subst l_90 y_91 z_92
  obtain ⟨rfl, N94, K95, E96, F97, F98⟩ := hQ89
  have N99 := Fr.app N74 N94
  have F100 := F75.keep K95
  have F101 := F73.keep K95 (ninS (Ne.symm ne81) nin0)
  have Z102 : n0 ≤ T83.heap.size := Nat.le_trans Z78 K95.1
  have O103 := O79.keep K95 (allS G51 all0)
  have P104 : Keep h0 T83.heap [] := P80.trans K95 (allS (P := fun x => x ∈ [] ∨ h0.size ≤ x) (Or.inr H050) all0)
  have e105 : T83.heap = T83.heap := rfl
  have k9 : own_J p e below T83 m 25 #[.val (.int cv)] [(.ref a48)] B_ := fun t_ hh => k8 t_ (st93.trans hh)
  clear k8 st93 X61 e82
  obtain ⟨fs, hr, hrun, hended, hW, hsame⟩ := X87.leave (v := some (.ref a48)) (fun h => by rw [Bd.returns] at h; cases h)
  refine ⟨_, _, (own_from hB_ (k9 _ (retOut X87 hx (t := .object "java/lang/String") Bd.returns rfl (Or.inr (Or.inr (Or.inr (Or.inr ⟨rfl, rfl, rfl⟩)))) (hb hby own_h120) hr))), hrun, hended, _, _, rfl, ?_, ⟨_, rfl⟩, hW, hsame.mono (own_l rfl) (own_l rfl)⟩
  show QVo Z cv h0 n0 _ T83.heap _
  rw [e105]
  exact ⟨_, _, _, rfl, N99, P104, G51, G72, E96, F97, F98, F101⟩
theorem own_h121 : decode prog_3_method_2_code 0 = .ok (.aload_n 0, 1) := by decide +kernel
theorem own_h122 : decode prog_3_method_2_code 1 = .ok (.ldc 7, 2) := by decide +kernel
theorem own_h123 : decode prog_3_method_2_code 3 = .ok (.invokestatic 9, 3) := by decide +kernel
theorem own_h124 : decode prog_3_method_2_code 6 = .ok (.pop, 1) := by decide +kernel
theorem own_h125 : decode prog_3_method_2_code 7 = .ok (.iconst 0, 1) := by decide +kernel
theorem own_h126 : decode prog_3_method_2_code 8 = .ok (.istore_n 1, 1) := by decide +kernel
theorem own_h127 : decode prog_3_method_2_code 9 = .ok (.iload_n 1, 1) := by decide +kernel
theorem own_h128 : decode prog_3_method_2_code 10 = .ok (.aload_n 0, 1) := by decide +kernel
theorem own_h129 : decode prog_3_method_2_code 11 = .ok (.invokevirtual 15, 3) := by decide +kernel
theorem own_h130 : decode prog_3_method_2_code 14 = .ok (.if_icmp .ge 55, 3) := by decide +kernel
theorem own_h131 : decode prog_3_method_2_code 17 = .ok (.aload_n 0, 1) := by decide +kernel
theorem own_h132 : decode prog_3_method_2_code 18 = .ok (.iload_n 1, 1) := by decide +kernel
theorem own_h133 : decode prog_3_method_2_code 19 = .ok (.invokevirtual 21, 3) := by decide +kernel
theorem own_h134 : decode prog_3_method_2_code 22 = .ok (.invokestatic 25, 3) := by decide +kernel
theorem own_h135 : decode prog_3_method_2_code 25 = .ok (.ifCond .ne 38, 3) := by decide +kernel
theorem own_h136 : decode prog_3_method_2_code 28 = .ok (.new 31, 3) := by decide +kernel
theorem own_h137 : decode prog_3_method_2_code 31 = .ok (.dup, 1) := by decide +kernel
theorem own_h138 : decode prog_3_method_2_code 32 = .ok (.ldc 33, 2) := by decide +kernel
theorem own_h139 : decode prog_3_method_2_code 34 = .ok (.iconst 2, 1) := by decide +kernel
theorem own_h140 : decode prog_3_method_2_code 35 = .ok (.anewarray 2, 3) := by decide +kernel
theorem own_h141 : decode prog_3_method_2_code 38 = .ok (.dup, 1) := by decide +kernel
theorem own_h142 : decode prog_3_method_2_code 39 = .ok (.iconst 0, 1) := by decide +kernel
theorem own_h143 : decode prog_3_method_2_code 40 = .ok (.aload_n 0, 1) := by decide +kernel
theorem own_h144 : decode prog_3_method_2_code 41 = .ok (.iload_n 1, 1) := by decide +kernel
theorem own_h145 : decode prog_3_method_2_code 42 = .ok (.invokevirtual 35, 3) := by decide +kernel
theorem own_h146 : decode prog_3_method_2_code 45 = .ok (.invokestatic 39, 3) := by decide +kernel
theorem own_h147 : decode prog_3_method_2_code 48 = .ok (.aastore, 1) := by decide +kernel
theorem own_h148 : decode prog_3_method_2_code 49 = .ok (.dup, 1) := by decide +kernel
theorem own_h149 : decode prog_3_method_2_code 50 = .ok (.iconst 1, 1) := by decide +kernel
theorem own_h150 : decode prog_3_method_2_code 51 = .ok (.iload_n 1, 1) := by decide +kernel
theorem own_h151 : decode prog_3_method_2_code 52 = .ok (.invokestatic 39, 3) := by decide +kernel
theorem own_h152 : decode prog_3_method_2_code 55 = .ok (.aastore, 1) := by decide +kernel
theorem own_h153 : decode prog_3_method_2_code 56 = .ok (.invokestatic 45, 3) := by decide +kernel
theorem own_h154 : decode prog_3_method_2_code 59 = .ok (.invokespecial 49, 3) := by decide +kernel
theorem own_h155 : decode prog_3_method_2_code 62 = .ok (.athrow, 1) := by decide +kernel
theorem own_h156 : decode prog_3_method_2_code 63 = .ok (.iinc 1 1, 3) := by decide +kernel
theorem own_h157 : decode prog_3_method_2_code 66 = .ok (.goto (-57), 3) := by decide +kernel
theorem own_h158 : decode prog_3_method_2_code 69 = .ok (.aload_n 0, 1) := by decide +kernel
theorem own_h159 : decode prog_3_method_2_code 70 = .ok (.invokevirtual 52, 3) := by decide +kernel
theorem own_h160 : decode prog_3_method_2_code 73 = .ok (.ifCond .ne 12, 3) := by decide +kernel
theorem own_h161 : decode prog_3_method_2_code 76 = .ok (.aload_n 0, 1) := by decide +kernel
theorem own_h162 : decode prog_3_method_2_code 77 = .ok (.invokevirtual 15, 3) := by decide +kernel
theorem own_h163 : decode prog_3_method_2_code 80 = .ok (.bipush 64, 2) := by decide +kernel
theorem own_h164 : decode prog_3_method_2_code 82 = .ok (.if_icmp .le 20, 3) := by decide +kernel
theorem own_h165 : decode prog_3_method_2_code 85 = .ok (.new 31, 3) := by decide +kernel
theorem own_h166 : decode prog_3_method_2_code 88 = .ok (.dup, 1) := by decide +kernel
theorem own_h167 : decode prog_3_method_2_code 89 = .ok (.aload_n 0, 1) := by decide +kernel
theorem own_h168 : decode prog_3_method_2_code 90 = .ok (.invokevirtual 15, 3) := by decide +kernel
theorem own_h169 : decode prog_3_method_2_code 93 = .ok (.invokedynamic 56, 5) := by decide +kernel
theorem own_h170 : decode prog_3_method_2_code 98 = .ok (.invokespecial 49, 3) := by decide +kernel
theorem own_h171 : decode prog_3_method_2_code 101 = .ok (.athrow, 1) := by decide +kernel
theorem own_h172 : decode prog_3_method_2_code 102 = .ok (.aload_n 0, 1) := by decide +kernel
theorem own_h173 : decode prog_3_method_2_code 103 = .ok (.areturn, 1) := by decide +kernel
theorem own_h174 : parseMethodDescriptor "(I)C" = some ⟨[.int], some .char⟩ := by decide +kernel
theorem own_h175 : parseMethodDescriptor "(C)Ljava/lang/String;" = some ⟨[.char], some (.object "java/lang/String")⟩ := by decide +kernel
theorem own_h176 : parseMethodDescriptor "()V" = some ⟨[], none⟩ := by decide +kernel
theorem own_h177 : parseMethodDescriptor "(Ljava/lang/String;)Ljava/lang/String;" = some ⟨[.object "java/lang/String"], some (.object "java/lang/String")⟩ := by decide +kernel
theorem own_h178 : parseMethodDescriptor "(Ljava/lang/Object;Ljava/lang/String;)Ljava/lang/Object;" = some ⟨[.object "java/lang/Object", .object "java/lang/String"], some (.object "java/lang/Object")⟩ := by decide +kernel
theorem own_h179 : parseMethodDescriptor "()I" = some ⟨[], some .int⟩ := by decide +kernel
theorem own_h180 : parseMethodDescriptor "()B" = some ⟨[], some .byte⟩ := by decide +kernel
theorem own_h181 : parseMethodDescriptor "()Z" = some ⟨[], some .boolean⟩ := by decide +kernel
theorem own_h182 : parseMethodDescriptor "([BI)C" = some ⟨[.array .byte, .int], some .char⟩ := by decide +kernel
theorem own_h183 : parseMethodDescriptor "(II)V" = some ⟨[.int, .int], none⟩ := by decide +kernel
theorem own_h184 : parseMethodDescriptor "(IILjava/util/function/BiFunction;)I" = some ⟨[.int, .int, .object "java/util/function/BiFunction"], some .int⟩ := by decide +kernel
theorem own_h185 : parseMethodDescriptor "(Ljava/lang/Object;)Z" = some ⟨[.object "java/lang/Object"], some .boolean⟩ := by decide +kernel
theorem own_h186 : parseMethodDescriptor "([C)V" = some ⟨[.array .char], none⟩ := by decide +kernel
theorem own_h187 : parseMethodDescriptor "([CIILjava/lang/Void;)V" = some ⟨[.array .char, .int, .int, .object "java/lang/Void"], none⟩ := by decide +kernel
theorem own_h188 : parseMethodDescriptor "([CII)[B" = some ⟨[.array .char, .int, .int], some (.array .byte)⟩ := by decide +kernel
theorem own_h189 : parseMethodDescriptor "([CI[BII)I" = some ⟨[.array .char, .int, .array .byte, .int, .int], some .int⟩ := by decide +kernel
theorem own_h190 : parseMethodDescriptor "([BI)B" = some ⟨[.array .byte, .int], some .byte⟩ := by decide +kernel
set_option maxRecDepth 65536 in
set_option maxHeartbeats 40000000 in
theorem own_turn {p : Program} {l : Launch} {e : Env} {s : State} {m : MethodId} {args : Array Value} {below : List Frame} {meth : Method} {c : Code} (Z : State) (a0 : Array Value) (hw : ∀ d ∈ tables_1, d.before a0 Z = true) (hx : p.tables.exec = Jvm.exec) (hby : c.code = prog_3_method_2_code) (hml : c.maxLocals = 2) (hZ : Z.Warmed39 s.vm) (hown : s.vm.findClass "com/example/tidying/tidying/PoolNames" = some m.cls) (a t : Addr) (kb : ClassId) (cs : List Int32) (h0 : Heap) (n0 : Nat) (Z0 : n0 ≤ h0.size) (S : own_Str Z h0 a t kb cs) (O0 : Old Z n0 h0) (ci : Int32) (sC : Sta Z Z.heap "java/lang/String" "COMPACT_STRINGS" "Z" (.int ci)) (hc : ¬ ci = 0) (gv : Value) (sG : Sta Z Z.heap "jdk/internal/util/Preconditions" "SIOOBE_FORMATTER" "Ljava/util/function/BiFunction;" gv) (hg : gv.isRef = true) (h64 : cs.length ≤ 64) (hok : ∀ c ∈ cs, own_ok c) (B : State) (i : Nat) (hi : i < cs.length) : ∀ (T : State) (locs : List Loc), Stand p l e ({ frames := 6, cells := 2, slots := 40, locals := 100 } : Room) s m args below meth c T locs 2 40 → T.heap = h0 → Fr n0 locs → own_K p e below (T.setTop (mkF m 9 #[.val (.ref a), .val (.int (Int32.ofNat i))] [])) B → ∃ (T' : State) (locs' : List Loc), Stand p l e ({ frames := 6, cells := 2, slots := 40, locals := 100 } : Room) s m args below meth c T' locs' 2 40 ∧ T'.heap = h0 ∧ Fr n0 locs' ∧ own_K p e below (T'.setTop (mkF m 9 #[.val (.ref a), .val (.int (Int32.ofNat (i + 1)))] [])) B := by
  intro T locs X eT NL k
  have k1 : own_J p e below T m 11 #[.val (.ref a), .val (.int (Int32.ofNat i))] [(.ref a), (.int (Int32.ofNat i))] B := fun t_ hh => k t_ (by
    refine XS.iloadN X.here hx rfl (hb hby own_h127) rfl ?_
    refine XS.aloadN X.here hx rfl (hb hby own_h128) rfl rfl ?_
    exact hh)
  obtain ⟨cq117, kq118, qa119, qb120, qc121⟩ := isOf hZ eT S.1
  obtain ⟨_, _, ⟨T106, L107, k_108, n_109⟩, -, X110, ⟨Lc111, hQ112, l_113, y_114, z_115⟩, st116⟩ := X.virtualBack hx (y := (⟨"java/lang/String", "length", "()I"⟩ : MethodName)) (z := (⟨"java/lang/String", "length", "()I"⟩ : MethodName)) hown (mvT hZ (wT hw 42 rfl)) (mvT hZ (wT hw 43 rfl)) (notFace_of_selects (args := #[]) (mvT hZ (wT hw 45 rfl))) (mvT hZ (wT hw 45 rfl)) (mvT hZ (wT hw 44 rfl)) (by decide) (StrChars.Road.lenW (W := 1) hZ (fun d hd => hw d (own_sub_wordsLen d hd)) (kI := 4) (wT hw 15 rfl) S.1 S.2.1 S.2.2.1 S.2.2.2 (own_cod (fun c hc => own_ok_b8 (hok c hc))) (fun c hc => ((fun c hc => own_ok_b8 (hok c hc)) c hc).up) (Sta.ext O0.2 sC) hc (by omega : cs.length ≤ 4000) (by decide) (by decide)) qa119 qc121 (g := (mkF m 11 #[.val (.ref a), .val (.int (Int32.ofNat i))] [(.ref a), (.int (Int32.ofNat i))])) rfl (by rw [hml]; rfl) (Steps.refl _) (argsL := []) (rest := [(.int (Int32.ofNat i))]) (lenOf own_h179 rfl) rfl (by show 2 * 0 + _ ≤ _; exact Nat.le_of_eq rfl) (hb hby own_h129) (fun _ _ => ⟨rfl, eT, own_l rfl, own_l rfl⟩)
  dsimp only [Pt.U, Pt.locs, Pt.cells, Pt.slots] at X110 l_113 y_114 z_115 st116 hQ112
  replace l_113 := l_113.symm
  subst l_113 y_114 z_115
  obtain ⟨rfl, rfl, e122⟩ := hQ112
  have N123 := Fr.app NL (Fr.nil n0)
  have k2 : own_J p e below T106 m 14 #[.val (.ref a), .val (.int (Int32.ofNat i))] [(.int (Int32.ofNat cs.length)), (.int (Int32.ofNat i))] B := fun t_ hh => k1 t_ (st116.trans hh)
  clear k1 st116
  have k3 : own_J p e below T106 m 19 #[.val (.ref a), .val (.int (Int32.ofNat i))] [(.int (Int32.ofNat i)), (.ref a)] B := fun t_ hh => k2 t_ (by
    refine XS.icmpNo X110.here hx rfl (hb hby own_h130) rfl (own_icF_ge ((own_lt32 (by omega) (by omega)).mpr hi)) ?_
    refine XS.aloadN X110.here hx rfl (hb hby own_h131) rfl rfl ?_
    refine XS.iloadN X110.here hx rfl (hb hby own_h132) rfl ?_
    exact hh)
  clear k2
  obtain ⟨cq135, kq136, qa137, qb138, qc139⟩ := isOf hZ e122 S.1
  obtain ⟨_, _, ⟨T124, L125, k_126, n_127⟩, -, X128, ⟨Lc129, hQ130, l_131, y_132, z_133⟩, st134⟩ := X110.virtualBack hx (y := (⟨"java/lang/String", "charAt", "(I)C"⟩ : MethodName)) (z := (⟨"java/lang/String", "charAt", "(I)C"⟩ : MethodName)) hown (mvT hZ (wT hw 52 rfl)) (mvT hZ (wT hw 53 rfl)) (notFace_of_selects (args := #[]) (mvT hZ (wT hw 55 rfl))) (mvT hZ (wT hw 55 rfl)) (mvT hZ (wT hw 54 rfl)) (by decide) (StrChars.Road.chN (W := 0) hZ (fun d hd => hw d (own_sub_wordsChN d hd)) (kI := 4) (wT hw 15 rfl) (i := i) S.1 S.2.1 S.2.2.1 S.2.2.2 (own_cod (fun c hc => own_ok_b8 (hok c hc))) (fun c hc => ((fun c hc => own_ok_b8 (hok c hc)) c hc).up) (Sta.ext O0.2 sC) hc (Sta.ext O0.2 sG) hg (by omega : cs.length ≤ 4000) hi rfl (by decide) (by decide)) qa137 qc139 (g := (mkF m 19 #[.val (.ref a), .val (.int (Int32.ofNat i))] [(.int (Int32.ofNat i)), (.ref a)])) rfl (by rw [hml]; rfl) (Steps.refl _) (argsL := [(.int (Int32.ofNat i))]) (rest := []) (lenOf own_h174 rfl) rfl (by show 2 * 0 + _ ≤ _; exact Nat.le_of_eq rfl) (hb hby own_h133) (fun _ _ => ⟨rfl, e122, own_l rfl, own_l rfl⟩)
  dsimp only [Pt.U, Pt.locs, Pt.cells, Pt.slots] at X128 l_131 y_132 z_133 st134 hQ130
  replace l_131 := l_131.symm
  subst l_131 y_132 z_133
  obtain ⟨rfl, rfl, e140⟩ := hQ130
  have N141 := Fr.app N123 (Fr.nil n0)
  have k4 : own_J p e below T124 m 22 #[.val (.ref a), .val (.int (Int32.ofNat i))] [(.int (cs.getD i 0))] B := fun t_ hh => k3 t_ (st134.trans hh)
  clear k3 st134 X110 e122
  obtain ⟨_, _, ⟨T142, L143, k_144, n_145⟩, -, X146, ⟨Lc147, hQ148, l_149, y_150, z_151⟩, st152⟩ := Jvm.LawKit.callS X128 hx (y := (⟨"com/example/tidying/tidying/PoolNames", "isAllowed", "(C)Z"⟩ : MethodName)) hown (mvT hZ (wT hw 73 rfl)) (mvT hZ (wT hw 74 rfl)) (mvT hZ (wT hw 33 rfl)) (mvT hZ (wT hw 75 rfl)) (by decide) (backOf (W := 0) (rmIa l Z a0 hw [] (cs.getD i 0) h0 n0 Z0 (own_all_ok cs i hi hok)) hZ (wT hw 75 rfl) (wT hw 33 rfl) (by decide) (by decide)) (g := (mkF m 22 #[.val (.ref a), .val (.int (Int32.ofNat i))] [(.int (cs.getD i 0))])) rfl (by rw [hml]; rfl) (argsL := [(.int (cs.getD i 0))]) (rest := []) (lenOf own_h110 rfl) rfl (by show 2 * 0 + _ ≤ _; exact Nat.le_of_eq rfl) (hb hby own_h134) (fun _ _ => ⟨rfl, e140, own_l rfl, own_l rfl⟩)
  dsimp only [Pt.U, Pt.locs, Pt.cells, Pt.slots] at X146 l_149 y_150 z_151 st152 hQ148
  replace l_149 := l_149.symm
  subst l_149 y_150 z_151
  obtain ⟨rfl, N153, e154⟩ := hQ148
  have N155 := Fr.app N141 N153
  have k5 : own_J p e below T142 m 25 #[.val (.ref a), .val (.int (Int32.ofNat i))] [(.int (1 : Int32))] B := fun t_ hh => k4 t_ (st152 t_ hh)
  clear k4 st152 X128 e140
  have k6 : own_J p e below T142 m 9 #[.val (.ref a), .val (.int ((Int32.ofNat i) + (1 : Int32)))] [] B := fun t_ hh => k5 t_ (by
    refine XS.ifYes X146.here hx rfl (pc0 := 25) (pc' := 63) rfl (hb hby own_h135) rfl (by decide) (by decide) (by decide) ?_
    refine XS.iinc X146.here hx rfl (hb hby own_h156) rfl (l' := #[.val (.ref a), .val (.int ((Int32.ofNat i) + (1 : Int32)))]) rfl ?_
    refine XS.goto X146.here hx rfl (pc0 := 66) (pc' := 9) rfl (hb hby own_h157) (by decide) (by decide) ?_
    exact hh)
  clear k5
  rw [own_step32 (by omega)] at k6
  exact ⟨_, _, X146, e154, N155, k6⟩
set_option maxRecDepth 65536 in
set_option maxHeartbeats 40000000 in
theorem own_exit {p : Program} {l : Launch} {e : Env} {s : State} {m : MethodId} {args : Array Value} {below : List Frame} {meth : Method} {c : Code} (Z : State) (a0 : Array Value) (hw : ∀ d ∈ tables_1, d.before a0 Z = true) (hx : p.tables.exec = Jvm.exec) (hby : c.code = prog_3_method_2_code) (hml : c.maxLocals = 2) (hZ : Z.Warmed39 s.vm) (hown : s.vm.findClass "com/example/tidying/tidying/PoolNames" = some m.cls) (a t : Addr) (kb : ClassId) (cs : List Int32) (h0 : Heap) (n0 : Nat) (Z0 : n0 ≤ h0.size) (S : own_Str Z h0 a t kb cs) (O0 : Old Z n0 h0) (ci : Int32) (sC : Sta Z Z.heap "java/lang/String" "COMPACT_STRINGS" "Z" (.int ci)) (hc : ¬ ci = 0) (gv : Value) (sG : Sta Z Z.heap "jdk/internal/util/Preconditions" "SIOOBE_FORMATTER" "Ljava/util/function/BiFunction;" gv) (hg : gv.isRef = true) (h64 : cs.length ≤ 64) (hok : ∀ c ∈ cs, own_ok c) (B : State)  : ∀ (T : State) (locs : List Loc), Stand p l e ({ frames := 6, cells := 2, slots := 40, locals := 100 } : Room) s m args below meth c T locs 2 40 → T.heap = h0 → Fr n0 locs → own_K p e below (T.setTop (mkF m 9 #[.val (.ref a), .val (.int (Int32.ofNat cs.length))] [])) B → ∃ (T' : State) (locs' : List Loc), Stand p l e ({ frames := 6, cells := 2, slots := 40, locals := 100 } : Room) s m args below meth c T' locs' 2 40 ∧ T'.heap = h0 ∧ Fr n0 locs' ∧ own_K p e below (T'.setTop (mkF m 69 #[.val (.ref a), .val (.int (Int32.ofNat cs.length))] [])) B := by
  intro T locs X eT NL k
  have k1 : own_J p e below T m 11 #[.val (.ref a), .val (.int (Int32.ofNat cs.length))] [(.ref a), (.int (Int32.ofNat cs.length))] B := fun t_ hh => k t_ (by
    refine XS.iloadN X.here hx rfl (hb hby own_h127) rfl ?_
    refine XS.aloadN X.here hx rfl (hb hby own_h128) rfl rfl ?_
    exact hh)
  obtain ⟨cq167, kq168, qa169, qb170, qc171⟩ := isOf hZ eT S.1
  obtain ⟨_, _, ⟨T156, L157, k_158, n_159⟩, -, X160, ⟨Lc161, hQ162, l_163, y_164, z_165⟩, st166⟩ := X.virtualBack hx (y := (⟨"java/lang/String", "length", "()I"⟩ : MethodName)) (z := (⟨"java/lang/String", "length", "()I"⟩ : MethodName)) hown (mvT hZ (wT hw 42 rfl)) (mvT hZ (wT hw 43 rfl)) (notFace_of_selects (args := #[]) (mvT hZ (wT hw 45 rfl))) (mvT hZ (wT hw 45 rfl)) (mvT hZ (wT hw 44 rfl)) (by decide) (StrChars.Road.lenW (W := 1) hZ (fun d hd => hw d (own_sub_wordsLen d hd)) (kI := 4) (wT hw 15 rfl) S.1 S.2.1 S.2.2.1 S.2.2.2 (own_cod (fun c hc => own_ok_b8 (hok c hc))) (fun c hc => ((fun c hc => own_ok_b8 (hok c hc)) c hc).up) (Sta.ext O0.2 sC) hc (by omega : cs.length ≤ 4000) (by decide) (by decide)) qa169 qc171 (g := (mkF m 11 #[.val (.ref a), .val (.int (Int32.ofNat cs.length))] [(.ref a), (.int (Int32.ofNat cs.length))])) rfl (by rw [hml]; rfl) (Steps.refl _) (argsL := []) (rest := [(.int (Int32.ofNat cs.length))]) (lenOf own_h179 rfl) rfl (by show 2 * 0 + _ ≤ _; exact Nat.le_of_eq rfl) (hb hby own_h129) (fun _ _ => ⟨rfl, eT, own_l rfl, own_l rfl⟩)
  dsimp only [Pt.U, Pt.locs, Pt.cells, Pt.slots] at X160 l_163 y_164 z_165 st166 hQ162
  replace l_163 := l_163.symm
  subst l_163 y_164 z_165
  obtain ⟨rfl, rfl, e172⟩ := hQ162
  have N173 := Fr.app NL (Fr.nil n0)
  have k2 : own_J p e below T156 m 14 #[.val (.ref a), .val (.int (Int32.ofNat cs.length))] [(.int (Int32.ofNat cs.length)), (.int (Int32.ofNat cs.length))] B := fun t_ hh => k1 t_ (st166.trans hh)
  clear k1 st166
  have k3 : own_J p e below T156 m 69 #[.val (.ref a), .val (.int (Int32.ofNat cs.length))] [] B := fun t_ hh => k2 t_ (by
    refine XS.icmpYes X160.here hx rfl (pc0 := 14) (pc' := 69) rfl (hb hby own_h130) rfl (own_icT_ge (fun q => absurd ((own_lt32 (by omega) (by omega)).mp q) (by omega))) (by decide) (by decide) ?_
    exact hh)
  clear k2
  exact ⟨_, _, X160, e172, N173, k3⟩
theorem own_loop {p : Program} {l : Launch} {e : Env} {s : State} {m : MethodId} {args : Array Value} {below : List Frame} {meth : Method} {c : Code} (Z : State) (a0 : Array Value) (hw : ∀ d ∈ tables_1, d.before a0 Z = true) (hx : p.tables.exec = Jvm.exec) (hby : c.code = prog_3_method_2_code) (hml : c.maxLocals = 2) (hZ : Z.Warmed39 s.vm) (hown : s.vm.findClass "com/example/tidying/tidying/PoolNames" = some m.cls) (a t : Addr) (kb : ClassId) (cs : List Int32) (h0 : Heap) (n0 : Nat) (Z0 : n0 ≤ h0.size) (S : own_Str Z h0 a t kb cs) (O0 : Old Z n0 h0) (ci : Int32) (sC : Sta Z Z.heap "java/lang/String" "COMPACT_STRINGS" "Z" (.int ci)) (hc : ¬ ci = 0) (gv : Value) (sG : Sta Z Z.heap "jdk/internal/util/Preconditions" "SIOOBE_FORMATTER" "Ljava/util/function/BiFunction;" gv) (hg : gv.isRef = true) (h64 : cs.length ≤ 64) (hok : ∀ c ∈ cs, own_ok c) (B : State) : ∀ j, j ≤ cs.length → ∀ (T : State) (locs : List Loc), Stand p l e ({ frames := 6, cells := 2, slots := 40, locals := 100 } : Room) s m args below meth c T locs 2 40 → T.heap = h0 → Fr n0 locs → own_K p e below (T.setTop (mkF m 9 #[.val (.ref a), .val (.int (Int32.ofNat (cs.length - j)))] [])) B → ∃ (T' : State) (locs' : List Loc), Stand p l e ({ frames := 6, cells := 2, slots := 40, locals := 100 } : Room) s m args below meth c T' locs' 2 40 ∧ T'.heap = h0 ∧ Fr n0 locs' ∧ own_K p e below (T'.setTop (mkF m 69 #[.val (.ref a), .val (.int (Int32.ofNat cs.length))] [])) B := by
  intro j
  induction j with
  | zero => intro _ T locs X eT NL k; exact own_exit Z a0 hw hx hby hml hZ hown a t kb cs h0 n0 Z0 S O0 ci sC hc gv sG hg h64 hok B T locs X eT NL k
  | succ j ih =>
    intro hj T locs X eT NL k
    obtain ⟨T1, locs1, X1, e1, NL1, k1⟩ := own_turn Z a0 hw hx hby hml hZ hown a t kb cs h0 n0 Z0 S O0 ci sC hc gv sG hg h64 hok B (cs.length - (j + 1)) (by omega) T locs X eT NL k
    rw [show cs.length - (j + 1) + 1 = cs.length - j by omega] at k1
    exact ih (by omega) T1 locs1 X1 e1 NL1 k1
def QV_ (a : Addr) (h0 : Heap) (n0 : Nat) (v : Option Value) (h : Heap) (L : List Loc) : Prop := v = some (.ref a) ∧ Fr n0 L ∧ Keep h0 h []
theorem own_le64 {n : Nat} (h : n ≤ 64) : ¬ (64 : Int32) < Int32.ofNat n := by
  rw [Int32.lt_iff_toInt_lt, own_nat32 (by omega), show (64 : Int32).toInt = 64 from rfl]; omega
theorem rmV (l : Launch) (Z : State) (a0 : Array Value) (hw : ∀ d ∈ tables_1, d.before a0 Z = true) (ws : List Jvm.Cond) (a t : Addr) (kb : ClassId) (cs : List Int32) (h0 : Heap) (n0 : Nat) (Z0 : n0 ≤ h0.size) (S : own_Str Z h0 a t kb cs) (O0 : Old Z n0 h0) (ci : Int32) (sC : Sta Z Z.heap "java/lang/String" "COMPACT_STRINGS" "Z" (.int ci)) (hc : ¬ ci = 0) (gv : Value) (sG : Sta Z Z.heap "jdk/internal/util/Preconditions" "SIOOBE_FORMATTER" "Ljava/util/function/BiFunction;" gv) (hg : gv.isRef = true) (h0l : 0 < cs.length) (h64 : cs.length ≤ 64) (hok : ∀ c ∈ cs, own_ok c) :
    MetFree l (⟨"com/example/tidying/tidying/PoolNames", "requireValid", "(Ljava/lang/String;)Ljava/lang/String;"⟩ : MethodName) (head1 (Jvm.Cond.code (⟨"com/example/tidying/tidying/PoolNames", "requireValid", "(Ljava/lang/String;)Ljava/lang/String;"⟩ : MethodName) prog_3_method_2_code 2 (some (.object "java/lang/String")) :: ws) (rO 6 2 40 100)) (fun ar_ U => ar_ = #[(.ref a)] ∧ Z.Warmed39 U.vm ∧ U.heap = h0) (fun _ _ _ _ _ => True) (fun _ U o U' => ∃ v L, o = .returned v ∧ QV_ a h0 n0 v U'.heap L ∧ ReturnedEndW U o U' L (rO 6 2 40 100).cells (rO 6 2 40 100).slots) := by
  refine MetFree.of_bodySF (plainFor_of_name own_h43) hisR ?_
  intro p e s m args below meth c s₁ Bd hml0 hP hK
  obtain ⟨rfl, hZ, hh⟩ := hP
  have hx := Bd.exec
  have hby := Bd.bytes
  have hml : c.maxLocals = 2 := hml0
  have hown : s.vm.findClass "com/example/tidying/tidying/PoolNames" = some m.cls := findClass_of_methodNamed Bd.named
  have hnm := (name_of_methodNamed Bd.named Bd.method).1
  have X0 : Stand p l e (rO 6 2 40 100) (s.setVm s.vm) m #[(.ref a)] below meth c s₁ [] 0 0 := Stand.of_body Bd
  have hS0 : s.Since s.vm 0 := (State.WarmedH.refl s).since 0
  have hk0 : 0 ≤ h0.size := Nat.zero_le _
  have hZ : Z.Warmed39 (s.setVm s.vm).vm := hZ
  have hown : (s.setVm s.vm).vm.findClass "com/example/tidying/tidying/PoolNames" = some m.cls := hown
  have e0 : s₁.heap = h0 := by rw [← hh, Bd.state]; rfl
  have N0 := Fr.nil n0
  obtain ⟨B_, hB_⟩ : ∃ z, z = s₁.setTop (entryFrame m #[(.ref a)] 2) := ⟨_, rfl⟩
  have k0 : own_K p e below (s₁.setTop (mkF m 0 #[.val (.ref a), .unset] [])) B_ := by rw [hB_]; exact fun t k => castTop (by clear k; first | (simp [entryFrame, mkF, argsToLocals, Value.category, maxLocals]; done) | rfl) k
  have K0 : Keep h0 h0 [] := Keep.refl _ _
  have k1 : own_J p e below s₁ m 1 #[.val (.ref a), .unset] [(.ref a)] B_ := fun t_ hh => k0 t_ (by
    refine XS.aloadN X0.here hx rfl (hb hby own_h121) rfl rfl ?_
    exact hh)
  obtain ⟨a21, T22, h23, k_24, X25, e26, E27, hS28, hk29, hZ30, hown31, st32⟩ := ldcS X0 hx hZ hown (wT hw 35 rfl) (own_strAtoms hw) e0 hS0 hk0 (g := (mkF m 1 #[.val (.ref a), .unset] [(.ref a)])) rfl (hb hby own_h122) (n := 36) (by decide) (by decide) (by decide) (by decide)
  have F33 := Exa.ext (h' := h23) E27 S.1
  have Z34 : n0 ≤ h23.size := Nat.le_trans Z0 E27.1
  have O35 := O0.ext E27
  have P36 : Keep h0 h23 [] := K0.ext E27
  have k2 : own_J p e below T22 m 3 #[.val (.ref a), .unset] [(.ref a21), (.ref a)] B_ := fun t_ hh => k1 t_ (st32 t_ hh)
  clear k1 st32
  have S37 : own_Str Z h23 a t kb cs := S.keep P36 nin0 nin0
  obtain ⟨_, _, ⟨T38, L39, k_40, n_41⟩, -, X42, ⟨Lc43, hQ44, l_45, y_46, z_47⟩, st48⟩ := Jvm.LawKit.callS X25 hx (y := (⟨"java/util/Objects", "requireNonNull", "(Ljava/lang/Object;Ljava/lang/String;)Ljava/lang/Object;"⟩ : MethodName)) hown31 (mvT hZ30 (wT hw 38 rfl)) (mvT hZ30 (wT hw 39 rfl)) (mvT hZ30 (wT hw 40 rfl)) (mvT hZ30 (wT hw 41 rfl)) (by decide) (backOf (W := 0) (rmNn l Z a0 hw [] a a21 h23 n0 Z34) hZ30 (wT hw 41 rfl) (wT hw 40 rfl) (by decide) (by decide)) (g := (mkF m 3 #[.val (.ref a), .unset] [(.ref a21), (.ref a)])) rfl (by rw [hml]; rfl) (argsL := [(.ref a), (.ref a21)]) (rest := []) (lenOf own_h178 rfl) rfl (by show 2 * 0 + _ ≤ _; exact Nat.le_of_eq rfl) (hb hby own_h123) (fun _ _ => ⟨rfl, e26, own_l rfl, own_l rfl⟩)
  dsimp only [Pt.U, Pt.locs, Pt.cells, Pt.slots] at X42 l_45 y_46 z_47 st48 hQ44
  replace l_45 := l_45.symm
  subst l_45 y_46 z_47
  obtain ⟨rfl, N49, e50⟩ := hQ44
  have N51 := Fr.app N0 N49
  have k3 : own_J p e below T38 m 6 #[.val (.ref a), .unset] [(.ref a)] B_ := fun t_ hh => k2 t_ (st48 t_ hh)
  clear k2 st48 X25 e26
  have k4 : own_J p e below T38 m 9 #[.val (.ref a), .val (.int (0 : Int32))] [] B_ := fun t_ hh => k3 t_ (by
    refine XS.pop X42.here hx rfl (hb hby own_h124) rfl rfl ?_
    refine XS.iconst X42.here hx rfl (hb hby own_h125) ?_
    refine XS.istoreN X42.here hx rfl (hb hby own_h126) rfl (l' := #[.val (.ref a), .val (.int (0 : Int32))]) rfl ?_
    exact hh)
  clear k3
  have kk550 : own_J p e below T38 m 9 #[.val (.ref a), .val (.int (Int32.ofNat (cs.length - cs.length)))] [] B_ := by rw [Nat.sub_self]; exact k4
  obtain ⟨T52, L56, X53, e54, N57, kk55⟩ := own_loop Z a0 hw hx hby hml hZ30 hown31 a t kb cs h23 n0 Z34 S37 O35 ci sC hc gv sG hg h64 hok _ cs.length (Nat.le_refl _) _ _ X42 e50 N51 kk550
  have k5 : own_J p e below T52 m 70 #[.val (.ref a), .val (.int (Int32.ofNat cs.length))] [(.ref a)] B_ := fun t_ hh => kk55 t_ (by
    refine XS.aloadN X53.here hx rfl (hb hby own_h158) rfl rfl ?_
    exact hh)
  clear kk55
  obtain ⟨cq69, kq70, qa71, qb72, qc73⟩ := isOf hZ30 e54 F33
  obtain ⟨_, _, ⟨T58, L59, k_60, n_61⟩, -, X62, ⟨Lc63, hQ64, l_65, y_66, z_67⟩, st68⟩ := X53.virtualBack hx (y := (⟨"java/lang/String", "isEmpty", "()Z"⟩ : MethodName)) (z := (⟨"java/lang/String", "isEmpty", "()Z"⟩ : MethodName)) hown31 (mvT hZ30 (wT hw 76 rfl)) (mvT hZ30 (wT hw 77 rfl)) (notFace_of_selects (args := #[]) (mvT hZ30 (wT hw 79 rfl))) (mvT hZ30 (wT hw 79 rfl)) (mvT hZ30 (wT hw 78 rfl)) (by decide) (StrChars.Road.empW (W := 0) hZ30 (fun d hd => hw d (own_sub_wordsEmp d hd)) (kI := 4) (wT hw 15 rfl) S37.1 S37.2.1 S37.2.2.1 S37.2.2.2 (own_cod (fun c hc => own_ok_b8 (hok c hc))) (fun c hc => ((fun c hc => own_ok_b8 (hok c hc)) c hc).up) (by omega : cs.length ≤ 4000) (by decide) (by decide)) qa71 qc73 (g := (mkF m 70 #[.val (.ref a), .val (.int (Int32.ofNat cs.length))] [(.ref a)])) rfl (by rw [hml]; rfl) (Steps.refl _) (argsL := []) (rest := []) (lenOf own_h181 rfl) rfl (by show 2 * 0 + _ ≤ _; exact Nat.le_of_eq rfl) (hb hby own_h159) (fun _ _ => ⟨rfl, e54, own_l rfl, own_l rfl⟩)
  dsimp only [Pt.U, Pt.locs, Pt.cells, Pt.slots] at X62 l_65 y_66 z_67 st68 hQ64
  replace l_65 := l_65.symm
  subst l_65 y_66 z_67
  obtain ⟨rfl, rfl, e74⟩ := hQ64
  have N75 := Fr.app N57 (Fr.nil n0)
  have k6 : own_J p e below T58 m 73 #[.val (.ref a), .val (.int (Int32.ofNat cs.length))] [(.int (if cs.length = 0 then 1 else 0))] B_ := fun t_ hh => k5 t_ (st68.trans hh)
  clear k5 st68 X53 e54
  have k7 : own_J p e below T58 m 77 #[.val (.ref a), .val (.int (Int32.ofNat cs.length))] [(.ref a)] B_ := fun t_ hh => k6 t_ (by
    refine XS.ifNo X62.here hx rfl (hb hby own_h160) rfl (own_ifF_ne (if_neg (by omega))) ?_
    refine XS.aloadN X62.here hx rfl (hb hby own_h161) rfl rfl ?_
    exact hh)
  clear k6
  obtain ⟨cq87, kq88, qa89, qb90, qc91⟩ := isOf hZ30 e74 F33
  obtain ⟨_, _, ⟨T76, L77, k_78, n_79⟩, -, X80, ⟨Lc81, hQ82, l_83, y_84, z_85⟩, st86⟩ := X62.virtualBack hx (y := (⟨"java/lang/String", "length", "()I"⟩ : MethodName)) (z := (⟨"java/lang/String", "length", "()I"⟩ : MethodName)) hown31 (mvT hZ30 (wT hw 42 rfl)) (mvT hZ30 (wT hw 43 rfl)) (notFace_of_selects (args := #[]) (mvT hZ30 (wT hw 45 rfl))) (mvT hZ30 (wT hw 45 rfl)) (mvT hZ30 (wT hw 44 rfl)) (by decide) (StrChars.Road.lenW (W := 0) hZ30 (fun d hd => hw d (own_sub_wordsLen d hd)) (kI := 4) (wT hw 15 rfl) S37.1 S37.2.1 S37.2.2.1 S37.2.2.2 (own_cod (fun c hc => own_ok_b8 (hok c hc))) (fun c hc => ((fun c hc => own_ok_b8 (hok c hc)) c hc).up) (Sta.ext O35.2 sC) hc (by omega : cs.length ≤ 4000) (by decide) (by decide)) qa89 qc91 (g := (mkF m 77 #[.val (.ref a), .val (.int (Int32.ofNat cs.length))] [(.ref a)])) rfl (by rw [hml]; rfl) (Steps.refl _) (argsL := []) (rest := []) (lenOf own_h179 rfl) rfl (by show 2 * 0 + _ ≤ _; exact Nat.le_of_eq rfl) (hb hby own_h162) (fun _ _ => ⟨rfl, e74, own_l rfl, own_l rfl⟩)
  dsimp only [Pt.U, Pt.locs, Pt.cells, Pt.slots] at X80 l_83 y_84 z_85 st86 hQ82
  replace l_83 := l_83.symm
  subst l_83 y_84 z_85
  obtain ⟨rfl, rfl, e92⟩ := hQ82
  have N93 := Fr.app N75 (Fr.nil n0)
  have k8 : own_J p e below T76 m 80 #[.val (.ref a), .val (.int (Int32.ofNat cs.length))] [(.int (Int32.ofNat cs.length))] B_ := fun t_ hh => k7 t_ (st86.trans hh)
  clear k7 st86 X62 e74
  have k9 : own_J p e below T76 m 103 #[.val (.ref a), .val (.int (Int32.ofNat cs.length))] [(.ref a)] B_ := fun t_ hh => k8 t_ (by
    refine XS.bipush X80.here hx rfl (hb hby own_h163) ?_
    refine XS.icmpYes X80.here hx rfl (pc0 := 82) (pc' := 102) rfl (hb hby own_h164) rfl (own_icT_le (own_le64 h64)) (by decide) (by decide) ?_
    refine XS.aloadN X80.here hx rfl (hb hby own_h172) rfl rfl ?_
    exact hh)
  clear k8
  obtain ⟨fs, hr, hrun, hended, hEnd⟩ := X80.leaveW hS28 (by rw [e92]; exact hk29) (v := some (.ref a)) (fun h => by rw [Bd.returns] at h; cases h)
  refine ⟨_, _, (own_from hB_ (k9 _ (retOut X80 hx (t := .object "java/lang/String") Bd.returns rfl (Or.inr (Or.inr (Or.inr (Or.inr ⟨rfl, rfl, rfl⟩)))) (hb hby own_h173) hr))), hrun, hended, _, _, rfl, ?_, hEnd.1, hEnd.2.1, hEnd.2.2.1, hEnd.2.2.2.mono (own_l rfl) (own_l rfl)⟩
  show QV_ a h0 n0 _ T76.heap _
  rw [e92]
  exact ⟨rfl, N93, P36⟩
def QL (h0 : Heap) (n0 : Nat) (v : Option Value) (h : Heap) (L : List Loc) : Prop := v = some (.int 1) ∧ Fr n0 L
theorem rmL (l : Launch) (Z : State) (a0 : Array Value) (hw : ∀ d ∈ tables_1, d.before a0 Z = true) (ws : List Jvm.Cond) (av bv cv dv mo : Int32) (h0 : Heap) (n0 : Nat) (Z0 : n0 ≤ h0.size) (O0 : Old Z n0 h0) (ci : Int32) (sC : Sta Z Z.heap "java/lang/String" "COMPACT_STRINGS" "Z" (.int ci)) (hc : ¬ ci = 0) (gv : Value) (sG : Sta Z Z.heap "jdk/internal/util/Preconditions" "SIOOBE_FORMATTER" "Ljava/util/function/BiFunction;" gv) (hg : gv.isRef = true) :
    MetFree l x (head1 (Jvm.Cond.code x code maxLocals ret :: ws) room_1) (fun ar_ U => ar_ = #[(.int av), (.int bv), (.int cv), (.int dv), (.int mo)] ∧ Z.Warmed39 U.vm ∧ U.heap = h0) (fun _ _ _ _ _ => True) (fun _ U o U' => ∃ v L, o = .returned v ∧ QL h0 n0 v U'.heap L ∧ ReturnedEndW U o U' L 16 1408) := by
  refine MetFree.of_bodySF (plainFor_of_name own_h1) hisR ?_
  intro p e s m args below meth c s₁ Bd hml0 hP hK
  obtain ⟨rfl, hZ, hh⟩ := hP
  have hx := Bd.exec
  have hby := Bd.bytes
  have hml : c.maxLocals = 12 := hml0
  have hown : s.vm.findClass "com/example/tidying/tidying/PoolNamesRequireValidPinLaw" = some m.cls := findClass_of_methodNamed Bd.named
  have hnm := (name_of_methodNamed Bd.named Bd.method).1
  have X0 : Stand p l e room_1 (s.setVm s.vm) m #[(.int av), (.int bv), (.int cv), (.int dv), (.int mo)] below meth c s₁ [] 0 0 := Stand.of_body Bd
  have hS0 : s.Since s.vm 0 := (State.WarmedH.refl s).since 0
  have hk0 : 0 ≤ h0.size := Nat.zero_le _
  have hZ : Z.Warmed39 (s.setVm s.vm).vm := hZ
  have hown : (s.setVm s.vm).vm.findClass "com/example/tidying/tidying/PoolNamesRequireValidPinLaw" = some m.cls := hown
  have e0 : s₁.heap = h0 := by rw [← hh, Bd.state]; rfl
  have N0 := Fr.nil n0
  obtain ⟨B_, hB_⟩ : ∃ z, z = s₁.setTop (entryFrame m #[(.int av), (.int bv), (.int cv), (.int dv), (.int mo)] maxLocals) := ⟨_, rfl⟩
  have k0 : own_K p e below (s₁.setTop (mkF m 0 #[.val (.int av), .val (.int bv), .val (.int cv), .val (.int dv), .val (.int mo), .unset, .unset, .unset, .unset, .unset, .unset, .unset] [])) B_ := by rw [hB_]; exact fun t k => castTop (by clear k; first | (simp [entryFrame, mkF, argsToLocals, Value.category, maxLocals]; done) | rfl) k
  have k1 : own_J p e below s₁ m 1 #[.val (.int av), .val (.int bv), .val (.int cv), .val (.int dv), .val (.int mo), .unset, .unset, .unset, .unset, .unset, .unset, .unset] [(.int av)] B_ := fun t_ hh => k0 t_ (by
    refine XS.iloadN X0.here hx rfl (hb hby at_0) rfl ?_
    exact hh)
  obtain ⟨_, _, ⟨T21, L22, k_23, n_24⟩, -, X25, ⟨Lc26, hQ27, l_28, y_29, z_30⟩, st31⟩ := Jvm.LawKit.callS X0 hx (y := (⟨"com/example/tidying/tidying/PoolNamesRequireValidPinLaw", "allowed", "(I)C"⟩ : MethodName)) hown (mvT hZ (wT hw 0 rfl)) (mvT hZ (wT hw 1 rfl)) (mvT hZ (wT hw 2 rfl)) (mvT hZ (wT hw 3 rfl)) (by decide) (backOf (W := 0) (rmAl l Z a0 hw [] av h0 n0 Z0) hZ (wT hw 3 rfl) (wT hw 2 rfl) (by decide) (by decide)) (g := (mkF m 1 #[.val (.int av), .val (.int bv), .val (.int cv), .val (.int dv), .val (.int mo), .unset, .unset, .unset, .unset, .unset, .unset, .unset] [(.int av)])) rfl (by rw [hml]; rfl) (argsL := [(.int av)]) (rest := []) (lenOf own_h174 rfl) rfl (by show 2 * 0 + _ ≤ _; exact Nat.le_of_eq rfl) (hb hby at_1) (fun _ _ => ⟨rfl, e0, own_l rfl, own_l rfl⟩)
  dsimp only [Pt.U, Pt.locs, Pt.cells, Pt.slots] at X25 l_28 y_29 z_30 st31 hQ27
  replace l_28 := l_28.symm
  subst l_28 y_29 z_30
  obtain ⟨chp, rfl, okp, N32, e33⟩ := hQ27
  have N34 := Fr.app N0 N32
  have k2 : own_J p e below T21 m 4 #[.val (.int av), .val (.int bv), .val (.int cv), .val (.int dv), .val (.int mo), .unset, .unset, .unset, .unset, .unset, .unset, .unset] [(.int chp)] B_ := fun t_ hh => k1 t_ (st31 t_ hh)
  clear k1 st31
  have k3 : own_J p e below T21 m 7 #[.val (.int av), .val (.int bv), .val (.int cv), .val (.int dv), .val (.int mo), .val (.int chp), .unset, .unset, .unset, .unset, .unset, .unset] [(.int bv)] B_ := fun t_ hh => k2 t_ (by
    refine XS.istore X25.here hx rfl (hb hby at_4) rfl (l' := #[.val (.int av), .val (.int bv), .val (.int cv), .val (.int dv), .val (.int mo), .val (.int chp), .unset, .unset, .unset, .unset, .unset, .unset]) rfl ?_
    refine XS.iloadN X25.here hx rfl (hb hby at_6) rfl ?_
    exact hh)
  clear k2
  obtain ⟨_, _, ⟨T35, L36, k_37, n_38⟩, -, X39, ⟨Lc40, hQ41, l_42, y_43, z_44⟩, st45⟩ := Jvm.LawKit.callS X25 hx (y := (⟨"com/example/tidying/tidying/PoolNamesRequireValidPinLaw", "allowed", "(I)C"⟩ : MethodName)) hown (mvT hZ (wT hw 0 rfl)) (mvT hZ (wT hw 1 rfl)) (mvT hZ (wT hw 2 rfl)) (mvT hZ (wT hw 3 rfl)) (by decide) (backOf (W := 0) (rmAl l Z a0 hw [] bv h0 n0 Z0) hZ (wT hw 3 rfl) (wT hw 2 rfl) (by decide) (by decide)) (g := (mkF m 7 #[.val (.int av), .val (.int bv), .val (.int cv), .val (.int dv), .val (.int mo), .val (.int chp), .unset, .unset, .unset, .unset, .unset, .unset] [(.int bv)])) rfl (by rw [hml]; rfl) (argsL := [(.int bv)]) (rest := []) (lenOf own_h174 rfl) rfl (by show 2 * 0 + _ ≤ _; exact Nat.le_of_eq rfl) (hb hby at_7) (fun _ _ => ⟨rfl, e33, own_l rfl, own_l rfl⟩)
  dsimp only [Pt.U, Pt.locs, Pt.cells, Pt.slots] at X39 l_42 y_43 z_44 st45 hQ41
  replace l_42 := l_42.symm
  subst l_42 y_43 z_44
  obtain ⟨chq, rfl, okq, N46, e47⟩ := hQ41
  have N48 := Fr.app N34 N46
  have k4 : own_J p e below T35 m 10 #[.val (.int av), .val (.int bv), .val (.int cv), .val (.int dv), .val (.int mo), .val (.int chp), .unset, .unset, .unset, .unset, .unset, .unset] [(.int chq)] B_ := fun t_ hh => k3 t_ (st45 t_ hh)
  clear k3 st45 X25 e33
  have k5 : own_J p e below T35 m 13 #[.val (.int av), .val (.int bv), .val (.int cv), .val (.int dv), .val (.int mo), .val (.int chp), .val (.int chq), .unset, .unset, .unset, .unset, .unset] [(.int cv)] B_ := fun t_ hh => k4 t_ (by
    refine XS.istore X39.here hx rfl (hb hby at_10) rfl (l' := #[.val (.int av), .val (.int bv), .val (.int cv), .val (.int dv), .val (.int mo), .val (.int chp), .val (.int chq), .unset, .unset, .unset, .unset, .unset]) rfl ?_
    refine XS.iloadN X39.here hx rfl (hb hby at_12) rfl ?_
    exact hh)
  clear k4
  obtain ⟨_, _, ⟨T49, L50, k_51, n_52⟩, -, X53, ⟨Lc54, hQ55, l_56, y_57, z_58⟩, st59⟩ := Jvm.LawKit.callS X39 hx (y := (⟨"com/example/tidying/tidying/PoolNamesRequireValidPinLaw", "allowed", "(I)C"⟩ : MethodName)) hown (mvT hZ (wT hw 0 rfl)) (mvT hZ (wT hw 1 rfl)) (mvT hZ (wT hw 2 rfl)) (mvT hZ (wT hw 3 rfl)) (by decide) (backOf (W := 0) (rmAl l Z a0 hw [] cv h0 n0 Z0) hZ (wT hw 3 rfl) (wT hw 2 rfl) (by decide) (by decide)) (g := (mkF m 13 #[.val (.int av), .val (.int bv), .val (.int cv), .val (.int dv), .val (.int mo), .val (.int chp), .val (.int chq), .unset, .unset, .unset, .unset, .unset] [(.int cv)])) rfl (by rw [hml]; rfl) (argsL := [(.int cv)]) (rest := []) (lenOf own_h174 rfl) rfl (by show 2 * 0 + _ ≤ _; exact Nat.le_of_eq rfl) (hb hby at_13) (fun _ _ => ⟨rfl, e47, own_l rfl, own_l rfl⟩)
  dsimp only [Pt.U, Pt.locs, Pt.cells, Pt.slots] at X53 l_56 y_57 z_58 st59 hQ55
  replace l_56 := l_56.symm
  subst l_56 y_57 z_58
  obtain ⟨chr, rfl, okr, N60, e61⟩ := hQ55
  have N62 := Fr.app N48 N60
  have k6 : own_J p e below T49 m 16 #[.val (.int av), .val (.int bv), .val (.int cv), .val (.int dv), .val (.int mo), .val (.int chp), .val (.int chq), .unset, .unset, .unset, .unset, .unset] [(.int chr)] B_ := fun t_ hh => k5 t_ (st59 t_ hh)
  clear k5 st59 X39 e47
  have k7 : own_J p e below T49 m 19 #[.val (.int av), .val (.int bv), .val (.int cv), .val (.int dv), .val (.int mo), .val (.int chp), .val (.int chq), .val (.int chr), .unset, .unset, .unset, .unset] [(.int dv)] B_ := fun t_ hh => k6 t_ (by
    refine XS.istore X53.here hx rfl (hb hby at_16) rfl (l' := #[.val (.int av), .val (.int bv), .val (.int cv), .val (.int dv), .val (.int mo), .val (.int chp), .val (.int chq), .val (.int chr), .unset, .unset, .unset, .unset]) rfl ?_
    refine XS.iloadN X53.here hx rfl (hb hby at_18) rfl ?_
    exact hh)
  clear k6
  obtain ⟨_, _, ⟨T63, L64, k_65, n_66⟩, -, X67, ⟨Lc68, hQ69, l_70, y_71, z_72⟩, st73⟩ := Jvm.LawKit.callS X53 hx (y := (⟨"com/example/tidying/tidying/PoolNamesRequireValidPinLaw", "allowed", "(I)C"⟩ : MethodName)) hown (mvT hZ (wT hw 0 rfl)) (mvT hZ (wT hw 1 rfl)) (mvT hZ (wT hw 2 rfl)) (mvT hZ (wT hw 3 rfl)) (by decide) (backOf (W := 0) (rmAl l Z a0 hw [] dv h0 n0 Z0) hZ (wT hw 3 rfl) (wT hw 2 rfl) (by decide) (by decide)) (g := (mkF m 19 #[.val (.int av), .val (.int bv), .val (.int cv), .val (.int dv), .val (.int mo), .val (.int chp), .val (.int chq), .val (.int chr), .unset, .unset, .unset, .unset] [(.int dv)])) rfl (by rw [hml]; rfl) (argsL := [(.int dv)]) (rest := []) (lenOf own_h174 rfl) rfl (by show 2 * 0 + _ ≤ _; exact Nat.le_of_eq rfl) (hb hby at_19) (fun _ _ => ⟨rfl, e61, own_l rfl, own_l rfl⟩)
  dsimp only [Pt.U, Pt.locs, Pt.cells, Pt.slots] at X67 l_70 y_71 z_72 st73 hQ69
  replace l_70 := l_70.symm
  subst l_70 y_71 z_72
  obtain ⟨chs, rfl, oks, N74, e75⟩ := hQ69
  have N76 := Fr.app N62 N74
  have k8 : own_J p e below T63 m 22 #[.val (.int av), .val (.int bv), .val (.int cv), .val (.int dv), .val (.int mo), .val (.int chp), .val (.int chq), .val (.int chr), .unset, .unset, .unset, .unset] [(.int chs)] B_ := fun t_ hh => k7 t_ (st73 t_ hh)
  clear k7 st73 X53 e61
  have k9 : own_J p e below T63 m 35 #[.val (.int av), .val (.int bv), .val (.int cv), .val (.int dv), .val (.int mo), .val (.int chp), .val (.int chq), .val (.int chr), .val (.int chs), .val (.int ((mo &&& (2147483647 : Int32)) % (5 : Int32))), .unset, .unset] [(.int ((mo &&& (2147483647 : Int32)) % (5 : Int32)))] B_ := fun t_ hh => k8 t_ (by
    refine XS.istore X67.here hx rfl (hb hby at_22) rfl (l' := #[.val (.int av), .val (.int bv), .val (.int cv), .val (.int dv), .val (.int mo), .val (.int chp), .val (.int chq), .val (.int chr), .val (.int chs), .unset, .unset, .unset]) rfl ?_
    refine XS.iload X67.here hx rfl (hb hby at_24) rfl ?_
    refine X67.ldcInt hx hown (mvT hZ (wT hw 4 rfl)) (g := (mkF m 26 #[.val (.int av), .val (.int bv), .val (.int cv), .val (.int dv), .val (.int mo), .val (.int chp), .val (.int chq), .val (.int chr), .val (.int chs), .unset, .unset, .unset] [(.int mo)])) rfl (hb hby at_26) _ ?_
    refine XS.iand X67.here hx rfl (hb hby at_28) rfl ?_
    refine XS.iconst X67.here hx rfl (hb hby at_29) ?_
    refine iremM X67 hx (g := (mkF m 30 #[.val (.int av), .val (.int bv), .val (.int cv), .val (.int dv), .val (.int mo), .val (.int chp), .val (.int chq), .val (.int chr), .val (.int chs), .unset, .unset, .unset] [(.int (5 : Int32)), (.int (mo &&& (2147483647 : Int32)))])) rfl (hb hby at_30) rfl (by decide) ?_
    refine XS.istore X67.here hx rfl (hb hby at_31) rfl (l' := #[.val (.int av), .val (.int bv), .val (.int cv), .val (.int dv), .val (.int mo), .val (.int chp), .val (.int chq), .val (.int chr), .val (.int chs), .val (.int ((mo &&& (2147483647 : Int32)) % (5 : Int32))), .unset, .unset]) rfl ?_
    refine XS.iload X67.here hx rfl (hb hby at_33) rfl ?_
    exact hh)
  clear k8
  by_cases c35 : ((mo &&& (2147483647 : Int32)) % (5 : Int32)) = 0
  ·
    have k10 : own_J p e below T63 m 40 #[.val (.int av), .val (.int bv), .val (.int cv), .val (.int dv), .val (.int mo), .val (.int chp), .val (.int chq), .val (.int chr), .val (.int chs), .val (.int ((mo &&& (2147483647 : Int32)) % (5 : Int32))), .unset, .unset] [(.int chp)] B_ := fun t_ hh => k9 t_ (by
      refine XS.ifNo X67.here hx rfl (hb hby at_35) rfl (own_ifF_ne c35) ?_
      refine XS.iload X67.here hx rfl (hb hby at_38) rfl ?_
      exact hh)
    clear k9
    obtain ⟨_, _, ⟨T77, L78, k_79, n_80⟩, -, X81, ⟨Lc82, hQ83, l_84, y_85, z_86⟩, st87⟩ := Jvm.LawKit.callS X67 hx (y := (⟨"java/lang/String", "valueOf", "(C)Ljava/lang/String;"⟩ : MethodName)) hown (mvT hZ (wT hw 5 rfl)) (mvT hZ (wT hw 6 rfl)) (mvT hZ (wT hw 7 rfl)) (mvT hZ (wT hw 8 rfl)) (by decide) (backOf (W := 0) (rmVo l Z a0 hw [] chp h0 n0 Z0 (own_ok_b8 okp) O0 ci sC hc) hZ (wT hw 8 rfl) (wT hw 7 rfl) (by decide) (by decide)) (g := (mkF m 40 #[.val (.int av), .val (.int bv), .val (.int cv), .val (.int dv), .val (.int mo), .val (.int chp), .val (.int chq), .val (.int chr), .val (.int chs), .val (.int ((mo &&& (2147483647 : Int32)) % (5 : Int32))), .unset, .unset] [(.int chp)])) rfl (by rw [hml]; rfl) (argsL := [(.int chp)]) (rest := []) (lenOf own_h175 rfl) rfl (by show 2 * 0 + _ ≤ _; exact Nat.le_of_eq rfl) (hb hby at_40) (fun _ _ => ⟨rfl, e75, own_l rfl, own_l rfl⟩)
    dsimp only [Pt.U, Pt.locs, Pt.cells, Pt.slots] at X81 l_84 y_85 z_86 st87 hQ83
    replace l_84 := l_84.symm
    subst l_84 y_85 z_86
    obtain ⟨a88, t89, kb90, rfl, N91, K92, G93, G94, S95⟩ := hQ83
    have N96 := Fr.app N76 N91
    have Z97 : n0 ≤ T77.heap.size := Nat.le_trans Z0 K92.1
    have hk98 := Nat.le_trans hk0 K92.1
    have O99 := O0.keep K92 all0
    have hp100 : ∀ c ∈ ([chp] : List Int32), own_ok c := (List.forall_mem_cons.mpr ⟨okp, (fun _ q => nomatch q)⟩)
    have e101 : T77.heap = T77.heap := rfl
    have k11 : own_J p e below T77 m 43 #[.val (.int av), .val (.int bv), .val (.int cv), .val (.int dv), .val (.int mo), .val (.int chp), .val (.int chq), .val (.int chr), .val (.int chs), .val (.int ((mo &&& (2147483647 : Int32)) % (5 : Int32))), .unset, .unset] [(.ref a88)] B_ := fun t_ hh => k10 t_ (st87 t_ hh)
    clear k10 st87 X67 e75
    have k12 : own_J p e below T77 m 549 #[.val (.int av), .val (.int bv), .val (.int cv), .val (.int dv), .val (.int mo), .val (.int chp), .val (.int chq), .val (.int chr), .val (.int chs), .val (.int ((mo &&& (2147483647 : Int32)) % (5 : Int32))), .val (.ref a88), .unset] [(.ref a88)] B_ := fun t_ hh => k11 t_ (by
      refine XS.astore X81.here hx rfl (hb hby at_43) rfl rfl (l' := #[.val (.int av), .val (.int bv), .val (.int cv), .val (.int dv), .val (.int mo), .val (.int chp), .val (.int chq), .val (.int chr), .val (.int chs), .val (.int ((mo &&& (2147483647 : Int32)) % (5 : Int32))), .val (.ref a88), .unset]) rfl ?_
      refine XS.goto X81.here hx rfl (pc0 := 45) (pc' := 547) rfl (hb hby at_45) (by decide) (by decide) ?_
      refine XS.aload X81.here hx rfl (hb hby at_547) rfl rfl ?_
      exact hh)
    clear k11
    obtain ⟨_, _, ⟨T102, L103, k_104, n_105⟩, -, X106, hSc113, hgr114, ⟨Lc107, hQ108, l_109, y_110, z_111⟩, st112⟩ := callSS X81 hx (y := (⟨"com/example/tidying/tidying/PoolNames", "requireValid", "(Ljava/lang/String;)Ljava/lang/String;"⟩ : MethodName)) hown (mvT hZ (wT hw 31 rfl)) (mvT hZ (wT hw 32 rfl)) (mvT hZ (wT hw 33 rfl)) (mvT hZ (wT hw 34 rfl)) (by decide) (backOfS (W := 0) (rmV l Z a0 hw [] a88 t89 kb90 [chp] T77.heap n0 Z97 S95 O99 ci sC hc gv sG hg (own_lt rfl) (own_l rfl) hp100) hZ (wT hw 34 rfl) (wT hw 33 rfl) (by decide) (by decide)) (g := (mkF m 549 #[.val (.int av), .val (.int bv), .val (.int cv), .val (.int dv), .val (.int mo), .val (.int chp), .val (.int chq), .val (.int chr), .val (.int chs), .val (.int ((mo &&& (2147483647 : Int32)) % (5 : Int32))), .val (.ref a88), .unset] [(.ref a88)])) rfl (by rw [hml]; rfl) (argsL := [(.ref a88)]) (rest := []) (lenOf own_h177 rfl) rfl (by show 2 * 0 + _ ≤ _; exact Nat.le_of_eq rfl) (hb hby at_549) (fun _ _ => ⟨rfl, e101, own_l rfl, own_l rfl⟩)
    dsimp only [Pt.U, Pt.locs, Pt.cells, Pt.slots] at X106 hSc113 hgr114 l_109 y_110 z_111 st112 hQ108
    replace l_109 := l_109.symm
    subst l_109 y_110 z_111
    obtain ⟨X116, hS117, hZ118, hown119⟩ := rebS hS0 (by rw [e101]; exact hk98) X106 hSc113 hgr114 hZ hown
    obtain ⟨rfl, N120, K121⟩ := hQ108
    have N122 := Fr.app N96 N120
    have F123 := S95.1.keep K121
    have Z124 : n0 ≤ T102.heap.size := Nat.le_trans Z97 K121.1
    have hk125 := Nat.le_trans hk98 K121.1
    have O126 := O99.keep K121 all0
    have S127 := S95.keep K121 nin0 nin0
    have e128 : T102.heap = T102.heap := rfl
    have k13 : own_J p e below T102 m 552 #[.val (.int av), .val (.int bv), .val (.int cv), .val (.int dv), .val (.int mo), .val (.int chp), .val (.int chq), .val (.int chr), .val (.int chs), .val (.int ((mo &&& (2147483647 : Int32)) % (5 : Int32))), .val (.ref a88), .unset] [(.ref a88)] B_ := fun t_ hh => k12 t_ (st112.trans hh)
    clear k12 st112 X81 e101
    have k14 : own_J p e below T102 m 561 #[.val (.int av), .val (.int bv), .val (.int cv), .val (.int dv), .val (.int mo), .val (.int chp), .val (.int chq), .val (.int chr), .val (.int chs), .val (.int ((mo &&& (2147483647 : Int32)) % (5 : Int32))), .val (.ref a88), .val (.ref a88)] [(.ref a88)] B_ := fun t_ hh => k13 t_ (by
      refine XS.astore X116.here hx rfl (hb hby at_552) rfl rfl (l' := #[.val (.int av), .val (.int bv), .val (.int cv), .val (.int dv), .val (.int mo), .val (.int chp), .val (.int chq), .val (.int chr), .val (.int chs), .val (.int ((mo &&& (2147483647 : Int32)) % (5 : Int32))), .val (.ref a88), .val (.ref a88)]) rfl ?_
      refine XS.aload X116.here hx rfl (hb hby at_554) rfl rfl ?_
      refine XS.ifnullNo X116.here hx rfl (hb hby at_556) rfl ?_
      refine XS.aload X116.here hx rfl (hb hby at_559) rfl rfl ?_
      exact hh)
    clear k13
    obtain ⟨cq140, kq141, qa142, qb143, qc144⟩ := isOf hZ118 e128 F123
    obtain ⟨_, _, ⟨T129, L130, k_131, n_132⟩, -, X133, ⟨Lc134, hQ135, l_136, y_137, z_138⟩, st139⟩ := X116.virtualBack hx (y := (⟨"java/lang/String", "length", "()I"⟩ : MethodName)) (z := (⟨"java/lang/String", "length", "()I"⟩ : MethodName)) hown119 (mvT hZ118 (wT hw 81 rfl)) (mvT hZ118 (wT hw 43 rfl)) (notFace_of_selects (args := #[]) (mvT hZ118 (wT hw 45 rfl))) (mvT hZ118 (wT hw 45 rfl)) (mvT hZ118 (wT hw 44 rfl)) (by decide) (StrChars.Road.lenW (W := 0) hZ118 (fun d hd => hw d (own_sub_wordsLen d hd)) (kI := 4) (wT hw 15 rfl) S127.1 S127.2.1 S127.2.2.1 S127.2.2.2 (own_cod (fun c hc => own_ok_b8 (hp100 c hc))) (fun c hc => ((fun c hc => own_ok_b8 (hp100 c hc)) c hc).up) (Sta.ext O126.2 sC) hc (own_l rfl) (by decide) (by decide)) qa142 qc144 (g := (mkF m 561 #[.val (.int av), .val (.int bv), .val (.int cv), .val (.int dv), .val (.int mo), .val (.int chp), .val (.int chq), .val (.int chr), .val (.int chs), .val (.int ((mo &&& (2147483647 : Int32)) % (5 : Int32))), .val (.ref a88), .val (.ref a88)] [(.ref a88)])) rfl (by rw [hml]; rfl) (Steps.refl _) (argsL := []) (rest := []) (lenOf own_h179 rfl) rfl (by show 2 * 0 + _ ≤ _; exact Nat.le_of_eq rfl) (hb hby at_561) (fun _ _ => ⟨rfl, e128, own_l rfl, own_l rfl⟩)
    dsimp only [Pt.U, Pt.locs, Pt.cells, Pt.slots] at X133 l_136 y_137 z_138 st139 hQ135
    replace l_136 := l_136.symm
    subst l_136 y_137 z_138
    obtain ⟨rfl, rfl, e145⟩ := hQ135
    have N146 := Fr.app N122 (Fr.nil n0)
    have k15 : own_J p e below T129 m 564 #[.val (.int av), .val (.int bv), .val (.int cv), .val (.int dv), .val (.int mo), .val (.int chp), .val (.int chq), .val (.int chr), .val (.int chs), .val (.int ((mo &&& (2147483647 : Int32)) % (5 : Int32))), .val (.ref a88), .val (.ref a88)] [(.int (Int32.ofNat (List.length ([chp] : List Int32))))] B_ := fun t_ hh => k14 t_ (st139.trans hh)
    clear k14 st139 X116 e128
    have k16 : own_J p e below T129 m 566 #[.val (.int av), .val (.int bv), .val (.int cv), .val (.int dv), .val (.int mo), .val (.int chp), .val (.int chq), .val (.int chr), .val (.int chs), .val (.int ((mo &&& (2147483647 : Int32)) % (5 : Int32))), .val (.ref a88), .val (.ref a88)] [(.ref a88), (.int (Int32.ofNat (List.length ([chp] : List Int32))))] B_ := fun t_ hh => k15 t_ (by
      refine XS.aload X133.here hx rfl (hb hby at_564) rfl rfl ?_
      exact hh)
    clear k15
    obtain ⟨cq158, kq159, qa160, qb161, qc162⟩ := isOf hZ118 e145 F123
    obtain ⟨_, _, ⟨T147, L148, k_149, n_150⟩, -, X151, ⟨Lc152, hQ153, l_154, y_155, z_156⟩, st157⟩ := X133.virtualBack hx (y := (⟨"java/lang/String", "length", "()I"⟩ : MethodName)) (z := (⟨"java/lang/String", "length", "()I"⟩ : MethodName)) hown119 (mvT hZ118 (wT hw 81 rfl)) (mvT hZ118 (wT hw 43 rfl)) (notFace_of_selects (args := #[]) (mvT hZ118 (wT hw 45 rfl))) (mvT hZ118 (wT hw 45 rfl)) (mvT hZ118 (wT hw 44 rfl)) (by decide) (StrChars.Road.lenW (W := 1) hZ118 (fun d hd => hw d (own_sub_wordsLen d hd)) (kI := 4) (wT hw 15 rfl) S127.1 S127.2.1 S127.2.2.1 S127.2.2.2 (own_cod (fun c hc => own_ok_b8 (hp100 c hc))) (fun c hc => ((fun c hc => own_ok_b8 (hp100 c hc)) c hc).up) (Sta.ext O126.2 sC) hc (own_l rfl) (by decide) (by decide)) qa160 qc162 (g := (mkF m 566 #[.val (.int av), .val (.int bv), .val (.int cv), .val (.int dv), .val (.int mo), .val (.int chp), .val (.int chq), .val (.int chr), .val (.int chs), .val (.int ((mo &&& (2147483647 : Int32)) % (5 : Int32))), .val (.ref a88), .val (.ref a88)] [(.ref a88), (.int (Int32.ofNat (List.length ([chp] : List Int32))))])) rfl (by rw [hml]; rfl) (Steps.refl _) (argsL := []) (rest := [(.int (Int32.ofNat (List.length ([chp] : List Int32))))]) (lenOf own_h179 rfl) rfl (by show 2 * 0 + _ ≤ _; exact Nat.le_of_eq rfl) (hb hby at_566) (fun _ _ => ⟨rfl, e145, own_l rfl, own_l rfl⟩)
    dsimp only [Pt.U, Pt.locs, Pt.cells, Pt.slots] at X151 l_154 y_155 z_156 st157 hQ153
    replace l_154 := l_154.symm
    subst l_154 y_155 z_156
    obtain ⟨rfl, rfl, e163⟩ := hQ153
    have N164 := Fr.app N146 (Fr.nil n0)
    have k17 : own_J p e below T147 m 569 #[.val (.int av), .val (.int bv), .val (.int cv), .val (.int dv), .val (.int mo), .val (.int chp), .val (.int chq), .val (.int chr), .val (.int chs), .val (.int ((mo &&& (2147483647 : Int32)) % (5 : Int32))), .val (.ref a88), .val (.ref a88)] [(.int (Int32.ofNat (List.length ([chp] : List Int32)))), (.int (Int32.ofNat (List.length ([chp] : List Int32))))] B_ := fun t_ hh => k16 t_ (st157.trans hh)
    clear k16 st157 X133 e145
    have k18 : own_J p e below T147 m 576 #[.val (.int av), .val (.int bv), .val (.int cv), .val (.int dv), .val (.int mo), .val (.int chp), .val (.int chq), .val (.int chr), .val (.int chs), .val (.int ((mo &&& (2147483647 : Int32)) % (5 : Int32))), .val (.ref a88), .val (.ref a88)] [(.ref a88), (.ref a88)] B_ := fun t_ hh => k17 t_ (by
      refine XS.icmpNo X151.here hx rfl (hb hby at_569) rfl (own_icF_ne rfl) ?_
      refine XS.aload X151.here hx rfl (hb hby at_572) rfl rfl ?_
      refine XS.aload X151.here hx rfl (hb hby at_574) rfl rfl ?_
      exact hh)
    clear k17
    obtain ⟨cq176, kq177, qa178, qb179, qc180⟩ := isOf hZ118 e163 F123
    obtain ⟨_, _, ⟨T165, L166, k_167, n_168⟩, -, X169, ⟨Lc170, hQ171, l_172, y_173, z_174⟩, st175⟩ := X151.virtualBack hx (y := (⟨"java/lang/String", "equals", "(Ljava/lang/Object;)Z"⟩ : MethodName)) (z := (⟨"java/lang/String", "equals", "(Ljava/lang/Object;)Z"⟩ : MethodName)) hown119 (mvT hZ118 (wT hw 82 rfl)) (mvT hZ118 (wT hw 83 rfl)) (notFace_of_selects (args := #[]) (mvT hZ118 (wT hw 85 rfl))) (mvT hZ118 (wT hw 85 rfl)) (mvT hZ118 (wT hw 84 rfl)) (by decide) (backOf (W := 0) (rmEq l Z a0 hw [] a88 T102.heap n0 Z124) hZ118 (wT hw 86 rfl) (wT hw 7 rfl) (by decide) (by decide)) qa178 qc180 (g := (mkF m 576 #[.val (.int av), .val (.int bv), .val (.int cv), .val (.int dv), .val (.int mo), .val (.int chp), .val (.int chq), .val (.int chr), .val (.int chs), .val (.int ((mo &&& (2147483647 : Int32)) % (5 : Int32))), .val (.ref a88), .val (.ref a88)] [(.ref a88), (.ref a88)])) rfl (by rw [hml]; rfl) (Steps.refl _) (argsL := [(.ref a88)]) (rest := []) (lenOf own_h185 rfl) rfl (by show 2 * 0 + _ ≤ _; exact Nat.le_of_eq rfl) (hb hby at_576) (fun _ _ => ⟨rfl, e163, own_l rfl, own_l rfl⟩)
    dsimp only [Pt.U, Pt.locs, Pt.cells, Pt.slots] at X169 l_172 y_173 z_174 st175 hQ171
    replace l_172 := l_172.symm
    subst l_172 y_173 z_174
    obtain ⟨rfl, N181, e182⟩ := hQ171
    have N183 := Fr.app N164 N181
    have k19 : own_J p e below T165 m 579 #[.val (.int av), .val (.int bv), .val (.int cv), .val (.int dv), .val (.int mo), .val (.int chp), .val (.int chq), .val (.int chr), .val (.int chs), .val (.int ((mo &&& (2147483647 : Int32)) % (5 : Int32))), .val (.ref a88), .val (.ref a88)] [(.int (1 : Int32))] B_ := fun t_ hh => k18 t_ (st175.trans hh)
    clear k18 st175 X151 e163
    have k20 : own_J p e below T165 m 587 #[.val (.int av), .val (.int bv), .val (.int cv), .val (.int dv), .val (.int mo), .val (.int chp), .val (.int chq), .val (.int chr), .val (.int chs), .val (.int ((mo &&& (2147483647 : Int32)) % (5 : Int32))), .val (.ref a88), .val (.ref a88)] [(.int (1 : Int32))] B_ := fun t_ hh => k19 t_ (by
      refine XS.ifNo X169.here hx rfl (hb hby at_579) rfl (by decide) ?_
      refine XS.iconst X169.here hx rfl (hb hby at_582) ?_
      refine XS.goto X169.here hx rfl (pc0 := 583) (pc' := 587) rfl (hb hby at_583) (by decide) (by decide) ?_
      exact hh)
    clear k19
    obtain ⟨fs, hr, hrun, hended, hEnd⟩ := X169.leaveW hS117 (by rw [e182]; exact (Nat.le_refl T102.heap.size)) (v := some (.int (1 : Int32))) (fun h => by rw [Bd.returns] at h; cases h)
    refine ⟨_, _, (own_from hB_ (k20 _ (retN X169 hx (t := .boolean) Bd.returns (by simp) (hb hby at_587) hr))), hrun, hended, _, _, rfl, ?_, hEnd.1, hEnd.2.1, hEnd.2.2.1, hEnd.2.2.2.mono (own_l rfl) (own_l rfl)⟩
    show QL h0 n0 _ T165.heap _
    rw [e182]
    exact ⟨rfl, N183⟩
  ·
    have k21 : own_J p e below T63 m 51 #[.val (.int av), .val (.int bv), .val (.int cv), .val (.int dv), .val (.int mo), .val (.int chp), .val (.int chq), .val (.int chr), .val (.int chs), .val (.int ((mo &&& (2147483647 : Int32)) % (5 : Int32))), .unset, .unset] [(.int (1 : Int32)), (.int ((mo &&& (2147483647 : Int32)) % (5 : Int32)))] B_ := fun t_ hh => k9 t_ (by
      refine XS.ifYes X67.here hx rfl (pc0 := 35) (pc' := 48) rfl (hb hby at_35) rfl (own_ifT_ne c35) (by decide) (by decide) ?_
      refine XS.iload X67.here hx rfl (hb hby at_48) rfl ?_
      refine XS.iconst X67.here hx rfl (hb hby at_50) ?_
      exact hh)
    clear k9
    by_cases c51 : ((mo &&& (2147483647 : Int32)) % (5 : Int32)) = (1 : Int32)
    ·
      have k22 : own_J p e below T63 m 54 #[.val (.int av), .val (.int bv), .val (.int cv), .val (.int dv), .val (.int mo), .val (.int chp), .val (.int chq), .val (.int chr), .val (.int chs), .val (.int ((mo &&& (2147483647 : Int32)) % (5 : Int32))), .unset, .unset] [] B_ := fun t_ hh => k21 t_ (by
        refine XS.icmpNo X67.here hx rfl (hb hby at_51) rfl (own_icF_ne c51) ?_
        exact hh)
      clear k21
      obtain ⟨T184, h185, X186, e187, E188, A189, D190, U192, st191⟩ := newO X67 hx hZ hown (wT hw 87 rfl) (wT hw 15 rfl) (wT hw 7 rfl) e75 (g := (mkF m 54 #[.val (.int av), .val (.int bv), .val (.int cv), .val (.int dv), .val (.int mo), .val (.int chp), .val (.int chq), .val (.int chr), .val (.int chs), .val (.int ((mo &&& (2147483647 : Int32)) % (5 : Int32))), .unset, .unset] [])) rfl (hb hby at_54) (by decide) (by decide)
      obtain ⟨a193, g194⟩ : ∃ z, z = h0.size := ⟨_, rfl⟩
      rw [← g194] at A189 D190 U192 st191
      have G195 : n0 ≤ a193 := Nat.le_trans Z0 (Nat.le_of_eq g194.symm)
      have hk196 := Nat.le_trans hk0 E188.1
      have Z197 : n0 ≤ h185.size := Nat.le_trans Z0 E188.1
      have O198 := O0.ext E188
      have F199 : Fld Z h185 a193 "java/lang/String" "value" "[B" .null := D190 (Or.inr (wT hw 28 rfl)) (ty := .array .byte) (by decide)
      have F200 : Fld Z h185 a193 "java/lang/String" "coder" "B" (.int (0 : Int32)) := D190 (Or.inr (wT hw 30 rfl)) (ty := .byte) (by decide)
      have k23 : own_J p e below T184 m 57 #[.val (.int av), .val (.int bv), .val (.int cv), .val (.int dv), .val (.int mo), .val (.int chp), .val (.int chq), .val (.int chr), .val (.int chs), .val (.int ((mo &&& (2147483647 : Int32)) % (5 : Int32))), .unset, .unset] [(.ref a193)] B_ := fun t_ hh => k22 t_ (st191 t_ hh)
      clear k22 st191 X67 e75
      have k24 : own_J p e below T184 m 59 #[.val (.int av), .val (.int bv), .val (.int cv), .val (.int dv), .val (.int mo), .val (.int chp), .val (.int chq), .val (.int chr), .val (.int chs), .val (.int ((mo &&& (2147483647 : Int32)) % (5 : Int32))), .unset, .unset] [(.int (2 : Int32)), (.ref a193), (.ref a193)] B_ := fun t_ hh => k23 t_ (by
        refine XS.dup X186.here hx rfl (hb hby at_57) rfl rfl ?_
        refine XS.iconst X186.here hx rfl (hb hby at_58) ?_
        exact hh)
      clear k23
      obtain ⟨T201, h202, kA203, X204, e205, E206, A207, st209⟩ := newP X186 hx hZ (wT hw 88 rfl) e187 (g := (mkF m 59 #[.val (.int av), .val (.int bv), .val (.int cv), .val (.int dv), .val (.int mo), .val (.int chp), .val (.int chq), .val (.int chr), .val (.int chs), .val (.int ((mo &&& (2147483647 : Int32)) % (5 : Int32))), .unset, .unset] [(.int (2 : Int32)), (.ref a193), (.ref a193)])) rfl (hb hby at_59) rfl (by decide) (cap := 2) (by decide) (by decide) (by decide) (by decide)
      obtain ⟨a210, g211⟩ : ∃ z, z = h185.size := ⟨_, rfl⟩
      rw [← g211] at A207 st209
      have G212 : n0 ≤ a210 := Nat.le_trans Z197 (Nat.le_of_eq g211.symm)
      have hk213 := Nat.le_trans hk196 E206.1
      have F214 := Exa.ext (h' := h202) E206 A189
      have F215 := Fld.ext (h' := h202) E206 F199
      have F216 := Fld.ext (h' := h202) E206 F200
      have Z217 : n0 ≤ h202.size := Nat.le_trans Z197 E206.1
      have O218 := O198.ext E206
      have V219 : Arv Z h202 a210 kA203 .char (2 : Int32) [(.int (0 : Int32)), (.int (0 : Int32))] (.int (0 : Int32)) := Arv.pad (Arv.new A207 (by decide)) (pad_rep [] (.int (0 : Int32)) 2)
      have k25 : own_J p e below T201 m 61 #[.val (.int av), .val (.int bv), .val (.int cv), .val (.int dv), .val (.int mo), .val (.int chp), .val (.int chq), .val (.int chr), .val (.int chs), .val (.int ((mo &&& (2147483647 : Int32)) % (5 : Int32))), .unset, .unset] [(.ref a210), (.ref a193), (.ref a193)] B_ := fun t_ hh => k24 t_ (st209 t_ hh)
      clear k24 st209 X186 e187
      have k26 : own_J p e below T201 m 65 #[.val (.int av), .val (.int bv), .val (.int cv), .val (.int dv), .val (.int mo), .val (.int chp), .val (.int chq), .val (.int chr), .val (.int chs), .val (.int ((mo &&& (2147483647 : Int32)) % (5 : Int32))), .unset, .unset] [(.int chp), (.int (0 : Int32)), (.ref a210), (.ref a210), (.ref a193), (.ref a193)] B_ := fun t_ hh => k25 t_ (by
        refine XS.dup X204.here hx rfl (hb hby at_61) rfl rfl ?_
        refine XS.iconst X204.here hx rfl (hb hby at_62) ?_
        refine XS.iload X204.here hx rfl (hb hby at_63) rfl ?_
        exact hh)
      clear k25
      obtain ⟨cl220, Ar221, q222, S223, Ng224, H225, Gf226⟩ := id V219
      have hin227 := inb_of (j := (0 : Int32)) S223 (by decide)
      obtain ⟨T228, h229, X230, e231, W232, st233⟩ := stC X204 hx hZ e205 Ar221 (j := (0 : Int32)) hin227 (g := (mkF m 65 #[.val (.int av), .val (.int bv), .val (.int cv), .val (.int dv), .val (.int mo), .val (.int chp), .val (.int chq), .val (.int chr), .val (.int chs), .val (.int ((mo &&& (2147483647 : Int32)) % (5 : Int32))), .unset, .unset] [(.int chp), (.int (0 : Int32)), (.ref a210), (.ref a210), (.ref a193), (.ref a193)])) rfl rfl (hb hby at_65)
      have N234 := Fr.snoc X230 N76 G212
      have K235 : Keep h202 h229 [a210] := Keep.of_wr W232
      have V236 := Arv.set Ar221 q222 S223 Ng224 H225 Gf226 (v := (.int (nar .char chp))) (fits_nar_char _) W232 0 rfl (own_lt rfl)
      have k27 : own_J p e below T228 m 66 #[.val (.int av), .val (.int bv), .val (.int cv), .val (.int dv), .val (.int mo), .val (.int chp), .val (.int chq), .val (.int chr), .val (.int chs), .val (.int ((mo &&& (2147483647 : Int32)) % (5 : Int32))), .unset, .unset] [(.ref a210), (.ref a193), (.ref a193)] B_ := fun t_ hh => k26 t_ (st233 t_ hh)
      clear k26 st233 X204 e205 cl220 Ar221 q222 S223 Ng224 H225 Gf226 hin227 W232 V219 N76
      have k28 : own_J p e below T228 m 70 #[.val (.int av), .val (.int bv), .val (.int cv), .val (.int dv), .val (.int mo), .val (.int chp), .val (.int chq), .val (.int chr), .val (.int chs), .val (.int ((mo &&& (2147483647 : Int32)) % (5 : Int32))), .unset, .unset] [(.int chq), (.int (1 : Int32)), (.ref a210), (.ref a210), (.ref a193), (.ref a193)] B_ := fun t_ hh => k27 t_ (by
        refine XS.dup X230.here hx rfl (hb hby at_66) rfl rfl ?_
        refine XS.iconst X230.here hx rfl (hb hby at_67) ?_
        refine XS.iload X230.here hx rfl (hb hby at_68) rfl ?_
        exact hh)
      clear k27
      obtain ⟨cl237, Ar238, q239, S240, Ng241, H242, Gf243⟩ := id V236
      have hin244 := inb_of (j := (1 : Int32)) S240 (by decide)
      obtain ⟨T245, h246, X247, e248, W249, st250⟩ := stC X230 hx hZ e231 Ar238 (j := (1 : Int32)) hin244 (g := (mkF m 70 #[.val (.int av), .val (.int bv), .val (.int cv), .val (.int dv), .val (.int mo), .val (.int chp), .val (.int chq), .val (.int chr), .val (.int chs), .val (.int ((mo &&& (2147483647 : Int32)) % (5 : Int32))), .unset, .unset] [(.int chq), (.int (1 : Int32)), (.ref a210), (.ref a210), (.ref a193), (.ref a193)])) rfl rfl (hb hby at_70)
      have N251 := Fr.snoc X247 N234 G212
      have K252 : Keep h202 h246 [a210] := K235.wr W249 own_m0
      have V253 := Arv.set Ar238 q239 S240 Ng241 H242 Gf243 (v := (.int (nar .char chq))) (fits_nar_char _) W249 1 rfl (own_lt rfl)
      have k29 : own_J p e below T245 m 71 #[.val (.int av), .val (.int bv), .val (.int cv), .val (.int dv), .val (.int mo), .val (.int chp), .val (.int chq), .val (.int chr), .val (.int chs), .val (.int ((mo &&& (2147483647 : Int32)) % (5 : Int32))), .unset, .unset] [(.ref a210), (.ref a193), (.ref a193)] B_ := fun t_ hh => k28 t_ (st250 t_ hh)
      clear k28 st250 X230 e231 cl237 Ar238 q239 S240 Ng241 H242 Gf243 hin244 W249 K235 V236 N234
      have V254 : Arv Z h246 a210 kA203 .char (2 : Int32) [(.int (nar .char chp)), (.int (nar .char chq))] (.int (0 : Int32)) := V253
      have F255 := F214.keep K252
      have ne257 : a193 ≠ a210 := by rw [g211]; exact Nat.ne_of_lt A189.lt
      have F256 := F215.keep K252 (ninS ne257 nin0)
      have F258 := F216.keep K252 (ninS ne257 nin0)
      have Z259 : n0 ≤ h246.size := Nat.le_trans Z217 K252.1
      have hk260 := Nat.le_trans hk213 K252.1
      have O261 := O218.keep K252 (allS G212 all0)
      have hp262 : ∀ c ∈ ([(nar .char chp), (nar .char chq)] : List Int32), own_ok c := (List.forall_mem_cons.mpr ⟨(own_ok_narok okp), (List.forall_mem_cons.mpr ⟨(own_ok_narok okq), (fun _ q => nomatch q)⟩)⟩)
      have F263 : Arv Z h246 a210 kA203 .char (Int32.ofNat 2) (([(nar .char chp), (nar .char chq)] : List Int32).map Value.int) (.int 0) := V254
      obtain ⟨cs264, hp265, hl266, F267⟩ : ∃ z : List Int32, (∀ c ∈ z, own_ok c) ∧ z.length = 2 ∧ Arv Z h246 a210 kA203 .char (Int32.ofNat 2) (z.map Value.int) (.int 0) := ⟨_, hp262, rfl, F263⟩
      have F268 : Arv Z h246 a210 kA203 .char (Int32.ofNat (List.length cs264)) (cs264.map Value.int) (.int 0) := own_lenA hl266 F267
      clear F267 F263 V254 hp262
      obtain ⟨_, _, ⟨T269, L270, k_271, n_272⟩, -, X273, ⟨Lc274, hQ275, l_276, y_277, z_278⟩, st279⟩ := X247.specialBack hx (y := (⟨"java/lang/String", "<init>", "([C)V"⟩ : MethodName)) rfl hown (mvT hZ (wT hw 89 rfl)) (mvT hZ (wT hw 90 rfl)) (mvT hZ (wT hw 91 rfl)) (by decide) (StrChars.Road.backV (W := 1) hZ (fun d hd => hw d (own_sub_words d hd)) (kI := 4) (wT hw 15 rfl) (cs := cs264) (n0 := n0) G195 Z259 F255 F256 F258 F268 (Sta.ext O261.2 sC) hc hl266 (congrArg Int32.ofNat hl266) (own_lt rfl) (own_l rfl) (fun c hc => own_ok_b8 (hp265 c hc)) rfl (by decide) (by decide)) (g := (mkF m 71 #[.val (.int av), .val (.int bv), .val (.int cv), .val (.int dv), .val (.int mo), .val (.int chp), .val (.int chq), .val (.int chr), .val (.int chs), .val (.int ((mo &&& (2147483647 : Int32)) % (5 : Int32))), .unset, .unset] [(.ref a210), (.ref a193), (.ref a193)])) rfl (by rw [hml]; rfl) (Steps.refl _) (a := a193) (argsL := [(.ref a210)]) (rest := [(.ref a193)]) (lenOf own_h186 rfl) rfl (by show 2 * 0 + _ ≤ _; exact Nat.le_of_eq rfl) (hb hby at_71) (fun _ _ => ⟨rfl, e248, own_l rfl, own_l rfl⟩)
      dsimp only [Pt.U, Pt.locs, Pt.cells, Pt.slots] at X273 l_276 y_277 z_278 st279 hQ275
      replace l_276 := l_276.symm
      subst l_276 y_277 z_278
      obtain ⟨rfl, N280, K281, E282, F283, t284, kb285, G286, G287, G288, F289, F290⟩ := hQ275
      have N291 := Fr.app N251 N280
      have F292 := F255.keep K281
      have F293 := F268.keep K281 (ninS (Ne.symm ne257) nin0)
      have Z294 : n0 ≤ T269.heap.size := Nat.le_trans Z259 K281.1
      have hk295 := Nat.le_trans hk260 K281.1
      have O296 := O261.keep K281 (allS G195 all0)
      have S297 : own_Str Z T269.heap a193 t284 kb285 cs264 := ⟨E282, F289, F283, F290⟩
      have e298 : T269.heap = T269.heap := rfl
      have k30 : own_J p e below T269 m 74 #[.val (.int av), .val (.int bv), .val (.int cv), .val (.int dv), .val (.int mo), .val (.int chp), .val (.int chq), .val (.int chr), .val (.int chs), .val (.int ((mo &&& (2147483647 : Int32)) % (5 : Int32))), .unset, .unset] [(.ref a193)] B_ := fun t_ hh => k29 t_ (st279.trans hh)
      clear k29 st279 X247 e248
      have k31 : own_J p e below T269 m 549 #[.val (.int av), .val (.int bv), .val (.int cv), .val (.int dv), .val (.int mo), .val (.int chp), .val (.int chq), .val (.int chr), .val (.int chs), .val (.int ((mo &&& (2147483647 : Int32)) % (5 : Int32))), .val (.ref a193), .unset] [(.ref a193)] B_ := fun t_ hh => k30 t_ (by
        refine XS.astore X273.here hx rfl (hb hby at_74) rfl rfl (l' := #[.val (.int av), .val (.int bv), .val (.int cv), .val (.int dv), .val (.int mo), .val (.int chp), .val (.int chq), .val (.int chr), .val (.int chs), .val (.int ((mo &&& (2147483647 : Int32)) % (5 : Int32))), .val (.ref a193), .unset]) rfl ?_
        refine XS.goto X273.here hx rfl (pc0 := 76) (pc' := 547) rfl (hb hby at_76) (by decide) (by decide) ?_
        refine XS.aload X273.here hx rfl (hb hby at_547) rfl rfl ?_
        exact hh)
      clear k30
      obtain ⟨_, _, ⟨T299, L300, k_301, n_302⟩, -, X303, hSc310, hgr311, ⟨Lc304, hQ305, l_306, y_307, z_308⟩, st309⟩ := callSS X273 hx (y := (⟨"com/example/tidying/tidying/PoolNames", "requireValid", "(Ljava/lang/String;)Ljava/lang/String;"⟩ : MethodName)) hown (mvT hZ (wT hw 31 rfl)) (mvT hZ (wT hw 32 rfl)) (mvT hZ (wT hw 33 rfl)) (mvT hZ (wT hw 34 rfl)) (by decide) (backOfS (W := 0) (rmV l Z a0 hw [] a193 t284 kb285 cs264 T269.heap n0 Z294 S297 O296 ci sC hc gv sG hg (own_lenp hl266 (own_lt rfl)) (own_lenl hl266 (own_l rfl)) hp265) hZ (wT hw 34 rfl) (wT hw 33 rfl) (by decide) (by decide)) (g := (mkF m 549 #[.val (.int av), .val (.int bv), .val (.int cv), .val (.int dv), .val (.int mo), .val (.int chp), .val (.int chq), .val (.int chr), .val (.int chs), .val (.int ((mo &&& (2147483647 : Int32)) % (5 : Int32))), .val (.ref a193), .unset] [(.ref a193)])) rfl (by rw [hml]; rfl) (argsL := [(.ref a193)]) (rest := []) (lenOf own_h177 rfl) rfl (by show 2 * 0 + _ ≤ _; exact Nat.le_of_eq rfl) (hb hby at_549) (fun _ _ => ⟨rfl, e298, own_l rfl, own_l rfl⟩)
      dsimp only [Pt.U, Pt.locs, Pt.cells, Pt.slots] at X303 hSc310 hgr311 l_306 y_307 z_308 st309 hQ305
      replace l_306 := l_306.symm
      subst l_306 y_307 z_308
      obtain ⟨X313, hS314, hZ315, hown316⟩ := rebS hS0 (by rw [e298]; exact hk295) X303 hSc310 hgr311 hZ hown
      obtain ⟨rfl, N317, K318⟩ := hQ305
      have N319 := Fr.app N291 N317
      have F320 := E282.keep K318
      have F321 := F293.keep K318 nin0
      have Z322 : n0 ≤ T299.heap.size := Nat.le_trans Z294 K318.1
      have hk323 := Nat.le_trans hk295 K318.1
      have O324 := O296.keep K318 all0
      have S325 := S297.keep K318 nin0 nin0
      have e326 : T299.heap = T299.heap := rfl
      have k32 : own_J p e below T299 m 552 #[.val (.int av), .val (.int bv), .val (.int cv), .val (.int dv), .val (.int mo), .val (.int chp), .val (.int chq), .val (.int chr), .val (.int chs), .val (.int ((mo &&& (2147483647 : Int32)) % (5 : Int32))), .val (.ref a193), .unset] [(.ref a193)] B_ := fun t_ hh => k31 t_ (st309.trans hh)
      clear k31 st309 X273 e298
      have k33 : own_J p e below T299 m 561 #[.val (.int av), .val (.int bv), .val (.int cv), .val (.int dv), .val (.int mo), .val (.int chp), .val (.int chq), .val (.int chr), .val (.int chs), .val (.int ((mo &&& (2147483647 : Int32)) % (5 : Int32))), .val (.ref a193), .val (.ref a193)] [(.ref a193)] B_ := fun t_ hh => k32 t_ (by
        refine XS.astore X313.here hx rfl (hb hby at_552) rfl rfl (l' := #[.val (.int av), .val (.int bv), .val (.int cv), .val (.int dv), .val (.int mo), .val (.int chp), .val (.int chq), .val (.int chr), .val (.int chs), .val (.int ((mo &&& (2147483647 : Int32)) % (5 : Int32))), .val (.ref a193), .val (.ref a193)]) rfl ?_
        refine XS.aload X313.here hx rfl (hb hby at_554) rfl rfl ?_
        refine XS.ifnullNo X313.here hx rfl (hb hby at_556) rfl ?_
        refine XS.aload X313.here hx rfl (hb hby at_559) rfl rfl ?_
        exact hh)
      clear k32
      obtain ⟨cq338, kq339, qa340, qb341, qc342⟩ := isOf hZ315 e326 F320
      obtain ⟨_, _, ⟨T327, L328, k_329, n_330⟩, -, X331, ⟨Lc332, hQ333, l_334, y_335, z_336⟩, st337⟩ := X313.virtualBack hx (y := (⟨"java/lang/String", "length", "()I"⟩ : MethodName)) (z := (⟨"java/lang/String", "length", "()I"⟩ : MethodName)) hown316 (mvT hZ315 (wT hw 81 rfl)) (mvT hZ315 (wT hw 43 rfl)) (notFace_of_selects (args := #[]) (mvT hZ315 (wT hw 45 rfl))) (mvT hZ315 (wT hw 45 rfl)) (mvT hZ315 (wT hw 44 rfl)) (by decide) (StrChars.Road.lenW (W := 0) hZ315 (fun d hd => hw d (own_sub_wordsLen d hd)) (kI := 4) (wT hw 15 rfl) S325.1 S325.2.1 S325.2.2.1 S325.2.2.2 (own_cod (fun c hc => own_ok_b8 (hp265 c hc))) (fun c hc => ((fun c hc => own_ok_b8 (hp265 c hc)) c hc).up) (Sta.ext O324.2 sC) hc (own_lenl hl266 (own_l rfl)) (by decide) (by decide)) qa340 qc342 (g := (mkF m 561 #[.val (.int av), .val (.int bv), .val (.int cv), .val (.int dv), .val (.int mo), .val (.int chp), .val (.int chq), .val (.int chr), .val (.int chs), .val (.int ((mo &&& (2147483647 : Int32)) % (5 : Int32))), .val (.ref a193), .val (.ref a193)] [(.ref a193)])) rfl (by rw [hml]; rfl) (Steps.refl _) (argsL := []) (rest := []) (lenOf own_h179 rfl) rfl (by show 2 * 0 + _ ≤ _; exact Nat.le_of_eq rfl) (hb hby at_561) (fun _ _ => ⟨rfl, e326, own_l rfl, own_l rfl⟩)
      dsimp only [Pt.U, Pt.locs, Pt.cells, Pt.slots] at X331 l_334 y_335 z_336 st337 hQ333
      replace l_334 := l_334.symm
      subst l_334 y_335 z_336
      obtain ⟨rfl, rfl, e343⟩ := hQ333
      have N344 := Fr.app N319 (Fr.nil n0)
      have k34 : own_J p e below T327 m 564 #[.val (.int av), .val (.int bv), .val (.int cv), .val (.int dv), .val (.int mo), .val (.int chp), .val (.int chq), .val (.int chr), .val (.int chs), .val (.int ((mo &&& (2147483647 : Int32)) % (5 : Int32))), .val (.ref a193), .val (.ref a193)] [(.int (Int32.ofNat (List.length (cs264 : List Int32))))] B_ := fun t_ hh => k33 t_ (st337.trans hh)
      clear k33 st337 X313 e326
      have k35 : own_J p e below T327 m 566 #[.val (.int av), .val (.int bv), .val (.int cv), .val (.int dv), .val (.int mo), .val (.int chp), .val (.int chq), .val (.int chr), .val (.int chs), .val (.int ((mo &&& (2147483647 : Int32)) % (5 : Int32))), .val (.ref a193), .val (.ref a193)] [(.ref a193), (.int (Int32.ofNat (List.length (cs264 : List Int32))))] B_ := fun t_ hh => k34 t_ (by
        refine XS.aload X331.here hx rfl (hb hby at_564) rfl rfl ?_
        exact hh)
      clear k34
      obtain ⟨cq356, kq357, qa358, qb359, qc360⟩ := isOf hZ315 e343 F320
      obtain ⟨_, _, ⟨T345, L346, k_347, n_348⟩, -, X349, ⟨Lc350, hQ351, l_352, y_353, z_354⟩, st355⟩ := X331.virtualBack hx (y := (⟨"java/lang/String", "length", "()I"⟩ : MethodName)) (z := (⟨"java/lang/String", "length", "()I"⟩ : MethodName)) hown316 (mvT hZ315 (wT hw 81 rfl)) (mvT hZ315 (wT hw 43 rfl)) (notFace_of_selects (args := #[]) (mvT hZ315 (wT hw 45 rfl))) (mvT hZ315 (wT hw 45 rfl)) (mvT hZ315 (wT hw 44 rfl)) (by decide) (StrChars.Road.lenW (W := 1) hZ315 (fun d hd => hw d (own_sub_wordsLen d hd)) (kI := 4) (wT hw 15 rfl) S325.1 S325.2.1 S325.2.2.1 S325.2.2.2 (own_cod (fun c hc => own_ok_b8 (hp265 c hc))) (fun c hc => ((fun c hc => own_ok_b8 (hp265 c hc)) c hc).up) (Sta.ext O324.2 sC) hc (own_lenl hl266 (own_l rfl)) (by decide) (by decide)) qa358 qc360 (g := (mkF m 566 #[.val (.int av), .val (.int bv), .val (.int cv), .val (.int dv), .val (.int mo), .val (.int chp), .val (.int chq), .val (.int chr), .val (.int chs), .val (.int ((mo &&& (2147483647 : Int32)) % (5 : Int32))), .val (.ref a193), .val (.ref a193)] [(.ref a193), (.int (Int32.ofNat (List.length (cs264 : List Int32))))])) rfl (by rw [hml]; rfl) (Steps.refl _) (argsL := []) (rest := [(.int (Int32.ofNat (List.length (cs264 : List Int32))))]) (lenOf own_h179 rfl) rfl (by show 2 * 0 + _ ≤ _; exact Nat.le_of_eq rfl) (hb hby at_566) (fun _ _ => ⟨rfl, e343, own_l rfl, own_l rfl⟩)
      dsimp only [Pt.U, Pt.locs, Pt.cells, Pt.slots] at X349 l_352 y_353 z_354 st355 hQ351
      replace l_352 := l_352.symm
      subst l_352 y_353 z_354
      obtain ⟨rfl, rfl, e361⟩ := hQ351
      have N362 := Fr.app N344 (Fr.nil n0)
      have k36 : own_J p e below T345 m 569 #[.val (.int av), .val (.int bv), .val (.int cv), .val (.int dv), .val (.int mo), .val (.int chp), .val (.int chq), .val (.int chr), .val (.int chs), .val (.int ((mo &&& (2147483647 : Int32)) % (5 : Int32))), .val (.ref a193), .val (.ref a193)] [(.int (Int32.ofNat (List.length (cs264 : List Int32)))), (.int (Int32.ofNat (List.length (cs264 : List Int32))))] B_ := fun t_ hh => k35 t_ (st355.trans hh)
      clear k35 st355 X331 e343
      have k37 : own_J p e below T345 m 576 #[.val (.int av), .val (.int bv), .val (.int cv), .val (.int dv), .val (.int mo), .val (.int chp), .val (.int chq), .val (.int chr), .val (.int chs), .val (.int ((mo &&& (2147483647 : Int32)) % (5 : Int32))), .val (.ref a193), .val (.ref a193)] [(.ref a193), (.ref a193)] B_ := fun t_ hh => k36 t_ (by
        refine XS.icmpNo X349.here hx rfl (hb hby at_569) rfl (own_icF_ne rfl) ?_
        refine XS.aload X349.here hx rfl (hb hby at_572) rfl rfl ?_
        refine XS.aload X349.here hx rfl (hb hby at_574) rfl rfl ?_
        exact hh)
      clear k36
      obtain ⟨cq374, kq375, qa376, qb377, qc378⟩ := isOf hZ315 e361 F320
      obtain ⟨_, _, ⟨T363, L364, k_365, n_366⟩, -, X367, ⟨Lc368, hQ369, l_370, y_371, z_372⟩, st373⟩ := X349.virtualBack hx (y := (⟨"java/lang/String", "equals", "(Ljava/lang/Object;)Z"⟩ : MethodName)) (z := (⟨"java/lang/String", "equals", "(Ljava/lang/Object;)Z"⟩ : MethodName)) hown316 (mvT hZ315 (wT hw 82 rfl)) (mvT hZ315 (wT hw 83 rfl)) (notFace_of_selects (args := #[]) (mvT hZ315 (wT hw 85 rfl))) (mvT hZ315 (wT hw 85 rfl)) (mvT hZ315 (wT hw 84 rfl)) (by decide) (backOf (W := 0) (rmEq l Z a0 hw [] a193 T299.heap n0 Z322) hZ315 (wT hw 86 rfl) (wT hw 7 rfl) (by decide) (by decide)) qa376 qc378 (g := (mkF m 576 #[.val (.int av), .val (.int bv), .val (.int cv), .val (.int dv), .val (.int mo), .val (.int chp), .val (.int chq), .val (.int chr), .val (.int chs), .val (.int ((mo &&& (2147483647 : Int32)) % (5 : Int32))), .val (.ref a193), .val (.ref a193)] [(.ref a193), (.ref a193)])) rfl (by rw [hml]; rfl) (Steps.refl _) (argsL := [(.ref a193)]) (rest := []) (lenOf own_h185 rfl) rfl (by show 2 * 0 + _ ≤ _; exact Nat.le_of_eq rfl) (hb hby at_576) (fun _ _ => ⟨rfl, e361, own_l rfl, own_l rfl⟩)
      dsimp only [Pt.U, Pt.locs, Pt.cells, Pt.slots] at X367 l_370 y_371 z_372 st373 hQ369
      replace l_370 := l_370.symm
      subst l_370 y_371 z_372
      obtain ⟨rfl, N379, e380⟩ := hQ369
      have N381 := Fr.app N362 N379
      have k38 : own_J p e below T363 m 579 #[.val (.int av), .val (.int bv), .val (.int cv), .val (.int dv), .val (.int mo), .val (.int chp), .val (.int chq), .val (.int chr), .val (.int chs), .val (.int ((mo &&& (2147483647 : Int32)) % (5 : Int32))), .val (.ref a193), .val (.ref a193)] [(.int (1 : Int32))] B_ := fun t_ hh => k37 t_ (st373.trans hh)
      clear k37 st373 X349 e361
      have k39 : own_J p e below T363 m 587 #[.val (.int av), .val (.int bv), .val (.int cv), .val (.int dv), .val (.int mo), .val (.int chp), .val (.int chq), .val (.int chr), .val (.int chs), .val (.int ((mo &&& (2147483647 : Int32)) % (5 : Int32))), .val (.ref a193), .val (.ref a193)] [(.int (1 : Int32))] B_ := fun t_ hh => k38 t_ (by
        refine XS.ifNo X367.here hx rfl (hb hby at_579) rfl (by decide) ?_
        refine XS.iconst X367.here hx rfl (hb hby at_582) ?_
        refine XS.goto X367.here hx rfl (pc0 := 583) (pc' := 587) rfl (hb hby at_583) (by decide) (by decide) ?_
        exact hh)
      clear k38
      obtain ⟨fs, hr, hrun, hended, hEnd⟩ := X367.leaveW hS314 (by rw [e380]; exact (Nat.le_refl T299.heap.size)) (v := some (.int (1 : Int32))) (fun h => by rw [Bd.returns] at h; cases h)
      refine ⟨_, _, (own_from hB_ (k39 _ (retN X367 hx (t := .boolean) Bd.returns (by simp) (hb hby at_587) hr))), hrun, hended, _, _, rfl, ?_, hEnd.1, hEnd.2.1, hEnd.2.2.1, hEnd.2.2.2.mono (own_l rfl) (own_l rfl)⟩
      show QL h0 n0 _ T363.heap _
      rw [e380]
      exact ⟨rfl, N381⟩
    ·
      have k40 : own_J p e below T63 m 82 #[.val (.int av), .val (.int bv), .val (.int cv), .val (.int dv), .val (.int mo), .val (.int chp), .val (.int chq), .val (.int chr), .val (.int chs), .val (.int ((mo &&& (2147483647 : Int32)) % (5 : Int32))), .unset, .unset] [(.int (2 : Int32)), (.int ((mo &&& (2147483647 : Int32)) % (5 : Int32)))] B_ := fun t_ hh => k21 t_ (by
        refine XS.icmpYes X67.here hx rfl (pc0 := 51) (pc' := 79) rfl (hb hby at_51) rfl (own_icT_ne c51) (by decide) (by decide) ?_
        refine XS.iload X67.here hx rfl (hb hby at_79) rfl ?_
        refine XS.iconst X67.here hx rfl (hb hby at_81) ?_
        exact hh)
      clear k21
      by_cases c82 : ((mo &&& (2147483647 : Int32)) % (5 : Int32)) = (2 : Int32)
      ·
        have k41 : own_J p e below T63 m 85 #[.val (.int av), .val (.int bv), .val (.int cv), .val (.int dv), .val (.int mo), .val (.int chp), .val (.int chq), .val (.int chr), .val (.int chs), .val (.int ((mo &&& (2147483647 : Int32)) % (5 : Int32))), .unset, .unset] [] B_ := fun t_ hh => k40 t_ (by
          refine XS.icmpNo X67.here hx rfl (hb hby at_82) rfl (own_icF_ne c82) ?_
          exact hh)
        clear k40
        obtain ⟨T382, h383, X384, e385, E386, A387, D388, U390, st389⟩ := newO X67 hx hZ hown (wT hw 87 rfl) (wT hw 15 rfl) (wT hw 7 rfl) e75 (g := (mkF m 85 #[.val (.int av), .val (.int bv), .val (.int cv), .val (.int dv), .val (.int mo), .val (.int chp), .val (.int chq), .val (.int chr), .val (.int chs), .val (.int ((mo &&& (2147483647 : Int32)) % (5 : Int32))), .unset, .unset] [])) rfl (hb hby at_85) (by decide) (by decide)
        obtain ⟨a391, g392⟩ : ∃ z, z = h0.size := ⟨_, rfl⟩
        rw [← g392] at A387 D388 U390 st389
        have G393 : n0 ≤ a391 := Nat.le_trans Z0 (Nat.le_of_eq g392.symm)
        have hk394 := Nat.le_trans hk0 E386.1
        have Z395 : n0 ≤ h383.size := Nat.le_trans Z0 E386.1
        have O396 := O0.ext E386
        have F397 : Fld Z h383 a391 "java/lang/String" "value" "[B" .null := D388 (Or.inr (wT hw 28 rfl)) (ty := .array .byte) (by decide)
        have F398 : Fld Z h383 a391 "java/lang/String" "coder" "B" (.int (0 : Int32)) := D388 (Or.inr (wT hw 30 rfl)) (ty := .byte) (by decide)
        have k42 : own_J p e below T382 m 88 #[.val (.int av), .val (.int bv), .val (.int cv), .val (.int dv), .val (.int mo), .val (.int chp), .val (.int chq), .val (.int chr), .val (.int chs), .val (.int ((mo &&& (2147483647 : Int32)) % (5 : Int32))), .unset, .unset] [(.ref a391)] B_ := fun t_ hh => k41 t_ (st389 t_ hh)
        clear k41 st389 X67 e75
        have k43 : own_J p e below T382 m 90 #[.val (.int av), .val (.int bv), .val (.int cv), .val (.int dv), .val (.int mo), .val (.int chp), .val (.int chq), .val (.int chr), .val (.int chs), .val (.int ((mo &&& (2147483647 : Int32)) % (5 : Int32))), .unset, .unset] [(.int (3 : Int32)), (.ref a391), (.ref a391)] B_ := fun t_ hh => k42 t_ (by
          refine XS.dup X384.here hx rfl (hb hby at_88) rfl rfl ?_
          refine XS.iconst X384.here hx rfl (hb hby at_89) ?_
          exact hh)
        clear k42
        obtain ⟨T399, h400, kA401, X402, e403, E404, A405, st407⟩ := newP X384 hx hZ (wT hw 88 rfl) e385 (g := (mkF m 90 #[.val (.int av), .val (.int bv), .val (.int cv), .val (.int dv), .val (.int mo), .val (.int chp), .val (.int chq), .val (.int chr), .val (.int chs), .val (.int ((mo &&& (2147483647 : Int32)) % (5 : Int32))), .unset, .unset] [(.int (3 : Int32)), (.ref a391), (.ref a391)])) rfl (hb hby at_90) rfl (by decide) (cap := 3) (by decide) (by decide) (by decide) (by decide)
        obtain ⟨a408, g409⟩ : ∃ z, z = h383.size := ⟨_, rfl⟩
        rw [← g409] at A405 st407
        have G410 : n0 ≤ a408 := Nat.le_trans Z395 (Nat.le_of_eq g409.symm)
        have hk411 := Nat.le_trans hk394 E404.1
        have F412 := Exa.ext (h' := h400) E404 A387
        have F413 := Fld.ext (h' := h400) E404 F397
        have F414 := Fld.ext (h' := h400) E404 F398
        have Z415 : n0 ≤ h400.size := Nat.le_trans Z395 E404.1
        have O416 := O396.ext E404
        have V417 : Arv Z h400 a408 kA401 .char (3 : Int32) [(.int (0 : Int32)), (.int (0 : Int32)), (.int (0 : Int32))] (.int (0 : Int32)) := Arv.pad (Arv.new A405 (by decide)) (pad_rep [] (.int (0 : Int32)) 3)
        have k44 : own_J p e below T399 m 92 #[.val (.int av), .val (.int bv), .val (.int cv), .val (.int dv), .val (.int mo), .val (.int chp), .val (.int chq), .val (.int chr), .val (.int chs), .val (.int ((mo &&& (2147483647 : Int32)) % (5 : Int32))), .unset, .unset] [(.ref a408), (.ref a391), (.ref a391)] B_ := fun t_ hh => k43 t_ (st407 t_ hh)
        clear k43 st407 X384 e385
        have k45 : own_J p e below T399 m 96 #[.val (.int av), .val (.int bv), .val (.int cv), .val (.int dv), .val (.int mo), .val (.int chp), .val (.int chq), .val (.int chr), .val (.int chs), .val (.int ((mo &&& (2147483647 : Int32)) % (5 : Int32))), .unset, .unset] [(.int chp), (.int (0 : Int32)), (.ref a408), (.ref a408), (.ref a391), (.ref a391)] B_ := fun t_ hh => k44 t_ (by
          refine XS.dup X402.here hx rfl (hb hby at_92) rfl rfl ?_
          refine XS.iconst X402.here hx rfl (hb hby at_93) ?_
          refine XS.iload X402.here hx rfl (hb hby at_94) rfl ?_
          exact hh)
        clear k44
        obtain ⟨cl418, Ar419, q420, S421, Ng422, H423, Gf424⟩ := id V417
        have hin425 := inb_of (j := (0 : Int32)) S421 (by decide)
        obtain ⟨T426, h427, X428, e429, W430, st431⟩ := stC X402 hx hZ e403 Ar419 (j := (0 : Int32)) hin425 (g := (mkF m 96 #[.val (.int av), .val (.int bv), .val (.int cv), .val (.int dv), .val (.int mo), .val (.int chp), .val (.int chq), .val (.int chr), .val (.int chs), .val (.int ((mo &&& (2147483647 : Int32)) % (5 : Int32))), .unset, .unset] [(.int chp), (.int (0 : Int32)), (.ref a408), (.ref a408), (.ref a391), (.ref a391)])) rfl rfl (hb hby at_96)
        have N432 := Fr.snoc X428 N76 G410
        have K433 : Keep h400 h427 [a408] := Keep.of_wr W430
        have V434 := Arv.set Ar419 q420 S421 Ng422 H423 Gf424 (v := (.int (nar .char chp))) (fits_nar_char _) W430 0 rfl (own_lt rfl)
        have k46 : own_J p e below T426 m 97 #[.val (.int av), .val (.int bv), .val (.int cv), .val (.int dv), .val (.int mo), .val (.int chp), .val (.int chq), .val (.int chr), .val (.int chs), .val (.int ((mo &&& (2147483647 : Int32)) % (5 : Int32))), .unset, .unset] [(.ref a408), (.ref a391), (.ref a391)] B_ := fun t_ hh => k45 t_ (st431 t_ hh)
        clear k45 st431 X402 e403 cl418 Ar419 q420 S421 Ng422 H423 Gf424 hin425 W430 V417 N76
        have k47 : own_J p e below T426 m 101 #[.val (.int av), .val (.int bv), .val (.int cv), .val (.int dv), .val (.int mo), .val (.int chp), .val (.int chq), .val (.int chr), .val (.int chs), .val (.int ((mo &&& (2147483647 : Int32)) % (5 : Int32))), .unset, .unset] [(.int chq), (.int (1 : Int32)), (.ref a408), (.ref a408), (.ref a391), (.ref a391)] B_ := fun t_ hh => k46 t_ (by
          refine XS.dup X428.here hx rfl (hb hby at_97) rfl rfl ?_
          refine XS.iconst X428.here hx rfl (hb hby at_98) ?_
          refine XS.iload X428.here hx rfl (hb hby at_99) rfl ?_
          exact hh)
        clear k46
        obtain ⟨cl435, Ar436, q437, S438, Ng439, H440, Gf441⟩ := id V434
        have hin442 := inb_of (j := (1 : Int32)) S438 (by decide)
        obtain ⟨T443, h444, X445, e446, W447, st448⟩ := stC X428 hx hZ e429 Ar436 (j := (1 : Int32)) hin442 (g := (mkF m 101 #[.val (.int av), .val (.int bv), .val (.int cv), .val (.int dv), .val (.int mo), .val (.int chp), .val (.int chq), .val (.int chr), .val (.int chs), .val (.int ((mo &&& (2147483647 : Int32)) % (5 : Int32))), .unset, .unset] [(.int chq), (.int (1 : Int32)), (.ref a408), (.ref a408), (.ref a391), (.ref a391)])) rfl rfl (hb hby at_101)
        have N449 := Fr.snoc X445 N432 G410
        have K450 : Keep h400 h444 [a408] := K433.wr W447 own_m0
        have V451 := Arv.set Ar436 q437 S438 Ng439 H440 Gf441 (v := (.int (nar .char chq))) (fits_nar_char _) W447 1 rfl (own_lt rfl)
        have k48 : own_J p e below T443 m 102 #[.val (.int av), .val (.int bv), .val (.int cv), .val (.int dv), .val (.int mo), .val (.int chp), .val (.int chq), .val (.int chr), .val (.int chs), .val (.int ((mo &&& (2147483647 : Int32)) % (5 : Int32))), .unset, .unset] [(.ref a408), (.ref a391), (.ref a391)] B_ := fun t_ hh => k47 t_ (st448 t_ hh)
        clear k47 st448 X428 e429 cl435 Ar436 q437 S438 Ng439 H440 Gf441 hin442 W447 K433 V434 N432
        have k49 : own_J p e below T443 m 106 #[.val (.int av), .val (.int bv), .val (.int cv), .val (.int dv), .val (.int mo), .val (.int chp), .val (.int chq), .val (.int chr), .val (.int chs), .val (.int ((mo &&& (2147483647 : Int32)) % (5 : Int32))), .unset, .unset] [(.int chr), (.int (2 : Int32)), (.ref a408), (.ref a408), (.ref a391), (.ref a391)] B_ := fun t_ hh => k48 t_ (by
          refine XS.dup X445.here hx rfl (hb hby at_102) rfl rfl ?_
          refine XS.iconst X445.here hx rfl (hb hby at_103) ?_
          refine XS.iload X445.here hx rfl (hb hby at_104) rfl ?_
          exact hh)
        clear k48
        obtain ⟨cl452, Ar453, q454, S455, Ng456, H457, Gf458⟩ := id V451
        have hin459 := inb_of (j := (2 : Int32)) S455 (by decide)
        obtain ⟨T460, h461, X462, e463, W464, st465⟩ := stC X445 hx hZ e446 Ar453 (j := (2 : Int32)) hin459 (g := (mkF m 106 #[.val (.int av), .val (.int bv), .val (.int cv), .val (.int dv), .val (.int mo), .val (.int chp), .val (.int chq), .val (.int chr), .val (.int chs), .val (.int ((mo &&& (2147483647 : Int32)) % (5 : Int32))), .unset, .unset] [(.int chr), (.int (2 : Int32)), (.ref a408), (.ref a408), (.ref a391), (.ref a391)])) rfl rfl (hb hby at_106)
        have N466 := Fr.snoc X462 N449 G410
        have K467 : Keep h400 h461 [a408] := K450.wr W464 own_m0
        have V468 : Arv Z h461 a408 kA401 .char (3 : Int32) [(.int (nar .char chp)), (.int (nar .char chq)), (.int (nar .char chr))] (.int (0 : Int32)) := Arv.set Ar453 q454 S455 Ng456 H457 Gf458 (fits_nar_char _) W464 2 rfl (own_lt rfl)
        have k50 : own_J p e below T460 m 107 #[.val (.int av), .val (.int bv), .val (.int cv), .val (.int dv), .val (.int mo), .val (.int chp), .val (.int chq), .val (.int chr), .val (.int chs), .val (.int ((mo &&& (2147483647 : Int32)) % (5 : Int32))), .unset, .unset] [(.ref a408), (.ref a391), (.ref a391)] B_ := fun t_ hh => k49 t_ (st465 t_ hh)
        clear k49 st465 X445 e446 cl452 Ar453 q454 S455 Ng456 H457 Gf458 hin459 W464 K450 V451 N449
        have V469 : Arv Z h461 a408 kA401 .char (3 : Int32) [(.int (nar .char chp)), (.int (nar .char chq)), (.int (nar .char chr))] (.int (0 : Int32)) := V468
        have F470 := F412.keep K467
        have ne472 : a391 ≠ a408 := by rw [g409]; exact Nat.ne_of_lt A387.lt
        have F471 := F413.keep K467 (ninS ne472 nin0)
        have F473 := F414.keep K467 (ninS ne472 nin0)
        have Z474 : n0 ≤ h461.size := Nat.le_trans Z415 K467.1
        have hk475 := Nat.le_trans hk411 K467.1
        have O476 := O416.keep K467 (allS G410 all0)
        have hp477 : ∀ c ∈ ([(nar .char chp), (nar .char chq), (nar .char chr)] : List Int32), own_ok c := (List.forall_mem_cons.mpr ⟨(own_ok_narok okp), (List.forall_mem_cons.mpr ⟨(own_ok_narok okq), (List.forall_mem_cons.mpr ⟨(own_ok_narok okr), (fun _ q => nomatch q)⟩)⟩)⟩)
        have F478 : Arv Z h461 a408 kA401 .char (Int32.ofNat 3) (([(nar .char chp), (nar .char chq), (nar .char chr)] : List Int32).map Value.int) (.int 0) := V469
        obtain ⟨cs479, hp480, hl481, F482⟩ : ∃ z : List Int32, (∀ c ∈ z, own_ok c) ∧ z.length = 3 ∧ Arv Z h461 a408 kA401 .char (Int32.ofNat 3) (z.map Value.int) (.int 0) := ⟨_, hp477, rfl, F478⟩
        have F483 : Arv Z h461 a408 kA401 .char (Int32.ofNat (List.length cs479)) (cs479.map Value.int) (.int 0) := own_lenA hl481 F482
        clear F482 F478 V469 hp477
        obtain ⟨_, _, ⟨T484, L485, k_486, n_487⟩, -, X488, ⟨Lc489, hQ490, l_491, y_492, z_493⟩, st494⟩ := X462.specialBack hx (y := (⟨"java/lang/String", "<init>", "([C)V"⟩ : MethodName)) rfl hown (mvT hZ (wT hw 89 rfl)) (mvT hZ (wT hw 90 rfl)) (mvT hZ (wT hw 91 rfl)) (by decide) (StrChars.Road.backV (W := 1) hZ (fun d hd => hw d (own_sub_words d hd)) (kI := 4) (wT hw 15 rfl) (cs := cs479) (n0 := n0) G393 Z474 F470 F471 F473 F483 (Sta.ext O476.2 sC) hc hl481 (congrArg Int32.ofNat hl481) (own_lt rfl) (own_l rfl) (fun c hc => own_ok_b8 (hp480 c hc)) rfl (by decide) (by decide)) (g := (mkF m 107 #[.val (.int av), .val (.int bv), .val (.int cv), .val (.int dv), .val (.int mo), .val (.int chp), .val (.int chq), .val (.int chr), .val (.int chs), .val (.int ((mo &&& (2147483647 : Int32)) % (5 : Int32))), .unset, .unset] [(.ref a408), (.ref a391), (.ref a391)])) rfl (by rw [hml]; rfl) (Steps.refl _) (a := a391) (argsL := [(.ref a408)]) (rest := [(.ref a391)]) (lenOf own_h186 rfl) rfl (by show 2 * 0 + _ ≤ _; exact Nat.le_of_eq rfl) (hb hby at_107) (fun _ _ => ⟨rfl, e463, own_l rfl, own_l rfl⟩)
        dsimp only [Pt.U, Pt.locs, Pt.cells, Pt.slots] at X488 l_491 y_492 z_493 st494 hQ490
        replace l_491 := l_491.symm
        subst l_491 y_492 z_493
        obtain ⟨rfl, N495, K496, E497, F498, t499, kb500, G501, G502, G503, F504, F505⟩ := hQ490
        have N506 := Fr.app N466 N495
        have F507 := F470.keep K496
        have F508 := F483.keep K496 (ninS (Ne.symm ne472) nin0)
        have Z509 : n0 ≤ T484.heap.size := Nat.le_trans Z474 K496.1
        have hk510 := Nat.le_trans hk475 K496.1
        have O511 := O476.keep K496 (allS G393 all0)
        have S512 : own_Str Z T484.heap a391 t499 kb500 cs479 := ⟨E497, F504, F498, F505⟩
        have e513 : T484.heap = T484.heap := rfl
        have k51 : own_J p e below T484 m 110 #[.val (.int av), .val (.int bv), .val (.int cv), .val (.int dv), .val (.int mo), .val (.int chp), .val (.int chq), .val (.int chr), .val (.int chs), .val (.int ((mo &&& (2147483647 : Int32)) % (5 : Int32))), .unset, .unset] [(.ref a391)] B_ := fun t_ hh => k50 t_ (st494.trans hh)
        clear k50 st494 X462 e463
        have k52 : own_J p e below T484 m 549 #[.val (.int av), .val (.int bv), .val (.int cv), .val (.int dv), .val (.int mo), .val (.int chp), .val (.int chq), .val (.int chr), .val (.int chs), .val (.int ((mo &&& (2147483647 : Int32)) % (5 : Int32))), .val (.ref a391), .unset] [(.ref a391)] B_ := fun t_ hh => k51 t_ (by
          refine XS.astore X488.here hx rfl (hb hby at_110) rfl rfl (l' := #[.val (.int av), .val (.int bv), .val (.int cv), .val (.int dv), .val (.int mo), .val (.int chp), .val (.int chq), .val (.int chr), .val (.int chs), .val (.int ((mo &&& (2147483647 : Int32)) % (5 : Int32))), .val (.ref a391), .unset]) rfl ?_
          refine XS.goto X488.here hx rfl (pc0 := 112) (pc' := 547) rfl (hb hby at_112) (by decide) (by decide) ?_
          refine XS.aload X488.here hx rfl (hb hby at_547) rfl rfl ?_
          exact hh)
        clear k51
        obtain ⟨_, _, ⟨T514, L515, k_516, n_517⟩, -, X518, hSc525, hgr526, ⟨Lc519, hQ520, l_521, y_522, z_523⟩, st524⟩ := callSS X488 hx (y := (⟨"com/example/tidying/tidying/PoolNames", "requireValid", "(Ljava/lang/String;)Ljava/lang/String;"⟩ : MethodName)) hown (mvT hZ (wT hw 31 rfl)) (mvT hZ (wT hw 32 rfl)) (mvT hZ (wT hw 33 rfl)) (mvT hZ (wT hw 34 rfl)) (by decide) (backOfS (W := 0) (rmV l Z a0 hw [] a391 t499 kb500 cs479 T484.heap n0 Z509 S512 O511 ci sC hc gv sG hg (own_lenp hl481 (own_lt rfl)) (own_lenl hl481 (own_l rfl)) hp480) hZ (wT hw 34 rfl) (wT hw 33 rfl) (by decide) (by decide)) (g := (mkF m 549 #[.val (.int av), .val (.int bv), .val (.int cv), .val (.int dv), .val (.int mo), .val (.int chp), .val (.int chq), .val (.int chr), .val (.int chs), .val (.int ((mo &&& (2147483647 : Int32)) % (5 : Int32))), .val (.ref a391), .unset] [(.ref a391)])) rfl (by rw [hml]; rfl) (argsL := [(.ref a391)]) (rest := []) (lenOf own_h177 rfl) rfl (by show 2 * 0 + _ ≤ _; exact Nat.le_of_eq rfl) (hb hby at_549) (fun _ _ => ⟨rfl, e513, own_l rfl, own_l rfl⟩)
        dsimp only [Pt.U, Pt.locs, Pt.cells, Pt.slots] at X518 hSc525 hgr526 l_521 y_522 z_523 st524 hQ520
        replace l_521 := l_521.symm
        subst l_521 y_522 z_523
        obtain ⟨X528, hS529, hZ530, hown531⟩ := rebS hS0 (by rw [e513]; exact hk510) X518 hSc525 hgr526 hZ hown
        obtain ⟨rfl, N532, K533⟩ := hQ520
        have N534 := Fr.app N506 N532
        have F535 := E497.keep K533
        have F536 := F508.keep K533 nin0
        have Z537 : n0 ≤ T514.heap.size := Nat.le_trans Z509 K533.1
        have hk538 := Nat.le_trans hk510 K533.1
        have O539 := O511.keep K533 all0
        have S540 := S512.keep K533 nin0 nin0
        have e541 : T514.heap = T514.heap := rfl
        have k53 : own_J p e below T514 m 552 #[.val (.int av), .val (.int bv), .val (.int cv), .val (.int dv), .val (.int mo), .val (.int chp), .val (.int chq), .val (.int chr), .val (.int chs), .val (.int ((mo &&& (2147483647 : Int32)) % (5 : Int32))), .val (.ref a391), .unset] [(.ref a391)] B_ := fun t_ hh => k52 t_ (st524.trans hh)
        clear k52 st524 X488 e513
        have k54 : own_J p e below T514 m 561 #[.val (.int av), .val (.int bv), .val (.int cv), .val (.int dv), .val (.int mo), .val (.int chp), .val (.int chq), .val (.int chr), .val (.int chs), .val (.int ((mo &&& (2147483647 : Int32)) % (5 : Int32))), .val (.ref a391), .val (.ref a391)] [(.ref a391)] B_ := fun t_ hh => k53 t_ (by
          refine XS.astore X528.here hx rfl (hb hby at_552) rfl rfl (l' := #[.val (.int av), .val (.int bv), .val (.int cv), .val (.int dv), .val (.int mo), .val (.int chp), .val (.int chq), .val (.int chr), .val (.int chs), .val (.int ((mo &&& (2147483647 : Int32)) % (5 : Int32))), .val (.ref a391), .val (.ref a391)]) rfl ?_
          refine XS.aload X528.here hx rfl (hb hby at_554) rfl rfl ?_
          refine XS.ifnullNo X528.here hx rfl (hb hby at_556) rfl ?_
          refine XS.aload X528.here hx rfl (hb hby at_559) rfl rfl ?_
          exact hh)
        clear k53
        obtain ⟨cq553, kq554, qa555, qb556, qc557⟩ := isOf hZ530 e541 F535
        obtain ⟨_, _, ⟨T542, L543, k_544, n_545⟩, -, X546, ⟨Lc547, hQ548, l_549, y_550, z_551⟩, st552⟩ := X528.virtualBack hx (y := (⟨"java/lang/String", "length", "()I"⟩ : MethodName)) (z := (⟨"java/lang/String", "length", "()I"⟩ : MethodName)) hown531 (mvT hZ530 (wT hw 81 rfl)) (mvT hZ530 (wT hw 43 rfl)) (notFace_of_selects (args := #[]) (mvT hZ530 (wT hw 45 rfl))) (mvT hZ530 (wT hw 45 rfl)) (mvT hZ530 (wT hw 44 rfl)) (by decide) (StrChars.Road.lenW (W := 0) hZ530 (fun d hd => hw d (own_sub_wordsLen d hd)) (kI := 4) (wT hw 15 rfl) S540.1 S540.2.1 S540.2.2.1 S540.2.2.2 (own_cod (fun c hc => own_ok_b8 (hp480 c hc))) (fun c hc => ((fun c hc => own_ok_b8 (hp480 c hc)) c hc).up) (Sta.ext O539.2 sC) hc (own_lenl hl481 (own_l rfl)) (by decide) (by decide)) qa555 qc557 (g := (mkF m 561 #[.val (.int av), .val (.int bv), .val (.int cv), .val (.int dv), .val (.int mo), .val (.int chp), .val (.int chq), .val (.int chr), .val (.int chs), .val (.int ((mo &&& (2147483647 : Int32)) % (5 : Int32))), .val (.ref a391), .val (.ref a391)] [(.ref a391)])) rfl (by rw [hml]; rfl) (Steps.refl _) (argsL := []) (rest := []) (lenOf own_h179 rfl) rfl (by show 2 * 0 + _ ≤ _; exact Nat.le_of_eq rfl) (hb hby at_561) (fun _ _ => ⟨rfl, e541, own_l rfl, own_l rfl⟩)
        dsimp only [Pt.U, Pt.locs, Pt.cells, Pt.slots] at X546 l_549 y_550 z_551 st552 hQ548
        replace l_549 := l_549.symm
        subst l_549 y_550 z_551
        obtain ⟨rfl, rfl, e558⟩ := hQ548
        have N559 := Fr.app N534 (Fr.nil n0)
        have k55 : own_J p e below T542 m 564 #[.val (.int av), .val (.int bv), .val (.int cv), .val (.int dv), .val (.int mo), .val (.int chp), .val (.int chq), .val (.int chr), .val (.int chs), .val (.int ((mo &&& (2147483647 : Int32)) % (5 : Int32))), .val (.ref a391), .val (.ref a391)] [(.int (Int32.ofNat (List.length (cs479 : List Int32))))] B_ := fun t_ hh => k54 t_ (st552.trans hh)
        clear k54 st552 X528 e541
        have k56 : own_J p e below T542 m 566 #[.val (.int av), .val (.int bv), .val (.int cv), .val (.int dv), .val (.int mo), .val (.int chp), .val (.int chq), .val (.int chr), .val (.int chs), .val (.int ((mo &&& (2147483647 : Int32)) % (5 : Int32))), .val (.ref a391), .val (.ref a391)] [(.ref a391), (.int (Int32.ofNat (List.length (cs479 : List Int32))))] B_ := fun t_ hh => k55 t_ (by
          refine XS.aload X546.here hx rfl (hb hby at_564) rfl rfl ?_
          exact hh)
        clear k55
        obtain ⟨cq571, kq572, qa573, qb574, qc575⟩ := isOf hZ530 e558 F535
        obtain ⟨_, _, ⟨T560, L561, k_562, n_563⟩, -, X564, ⟨Lc565, hQ566, l_567, y_568, z_569⟩, st570⟩ := X546.virtualBack hx (y := (⟨"java/lang/String", "length", "()I"⟩ : MethodName)) (z := (⟨"java/lang/String", "length", "()I"⟩ : MethodName)) hown531 (mvT hZ530 (wT hw 81 rfl)) (mvT hZ530 (wT hw 43 rfl)) (notFace_of_selects (args := #[]) (mvT hZ530 (wT hw 45 rfl))) (mvT hZ530 (wT hw 45 rfl)) (mvT hZ530 (wT hw 44 rfl)) (by decide) (StrChars.Road.lenW (W := 1) hZ530 (fun d hd => hw d (own_sub_wordsLen d hd)) (kI := 4) (wT hw 15 rfl) S540.1 S540.2.1 S540.2.2.1 S540.2.2.2 (own_cod (fun c hc => own_ok_b8 (hp480 c hc))) (fun c hc => ((fun c hc => own_ok_b8 (hp480 c hc)) c hc).up) (Sta.ext O539.2 sC) hc (own_lenl hl481 (own_l rfl)) (by decide) (by decide)) qa573 qc575 (g := (mkF m 566 #[.val (.int av), .val (.int bv), .val (.int cv), .val (.int dv), .val (.int mo), .val (.int chp), .val (.int chq), .val (.int chr), .val (.int chs), .val (.int ((mo &&& (2147483647 : Int32)) % (5 : Int32))), .val (.ref a391), .val (.ref a391)] [(.ref a391), (.int (Int32.ofNat (List.length (cs479 : List Int32))))])) rfl (by rw [hml]; rfl) (Steps.refl _) (argsL := []) (rest := [(.int (Int32.ofNat (List.length (cs479 : List Int32))))]) (lenOf own_h179 rfl) rfl (by show 2 * 0 + _ ≤ _; exact Nat.le_of_eq rfl) (hb hby at_566) (fun _ _ => ⟨rfl, e558, own_l rfl, own_l rfl⟩)
        dsimp only [Pt.U, Pt.locs, Pt.cells, Pt.slots] at X564 l_567 y_568 z_569 st570 hQ566
        replace l_567 := l_567.symm
        subst l_567 y_568 z_569
        obtain ⟨rfl, rfl, e576⟩ := hQ566
        have N577 := Fr.app N559 (Fr.nil n0)
        have k57 : own_J p e below T560 m 569 #[.val (.int av), .val (.int bv), .val (.int cv), .val (.int dv), .val (.int mo), .val (.int chp), .val (.int chq), .val (.int chr), .val (.int chs), .val (.int ((mo &&& (2147483647 : Int32)) % (5 : Int32))), .val (.ref a391), .val (.ref a391)] [(.int (Int32.ofNat (List.length (cs479 : List Int32)))), (.int (Int32.ofNat (List.length (cs479 : List Int32))))] B_ := fun t_ hh => k56 t_ (st570.trans hh)
        clear k56 st570 X546 e558
        have k58 : own_J p e below T560 m 576 #[.val (.int av), .val (.int bv), .val (.int cv), .val (.int dv), .val (.int mo), .val (.int chp), .val (.int chq), .val (.int chr), .val (.int chs), .val (.int ((mo &&& (2147483647 : Int32)) % (5 : Int32))), .val (.ref a391), .val (.ref a391)] [(.ref a391), (.ref a391)] B_ := fun t_ hh => k57 t_ (by
          refine XS.icmpNo X564.here hx rfl (hb hby at_569) rfl (own_icF_ne rfl) ?_
          refine XS.aload X564.here hx rfl (hb hby at_572) rfl rfl ?_
          refine XS.aload X564.here hx rfl (hb hby at_574) rfl rfl ?_
          exact hh)
        clear k57
        obtain ⟨cq589, kq590, qa591, qb592, qc593⟩ := isOf hZ530 e576 F535
        obtain ⟨_, _, ⟨T578, L579, k_580, n_581⟩, -, X582, ⟨Lc583, hQ584, l_585, y_586, z_587⟩, st588⟩ := X564.virtualBack hx (y := (⟨"java/lang/String", "equals", "(Ljava/lang/Object;)Z"⟩ : MethodName)) (z := (⟨"java/lang/String", "equals", "(Ljava/lang/Object;)Z"⟩ : MethodName)) hown531 (mvT hZ530 (wT hw 82 rfl)) (mvT hZ530 (wT hw 83 rfl)) (notFace_of_selects (args := #[]) (mvT hZ530 (wT hw 85 rfl))) (mvT hZ530 (wT hw 85 rfl)) (mvT hZ530 (wT hw 84 rfl)) (by decide) (backOf (W := 0) (rmEq l Z a0 hw [] a391 T514.heap n0 Z537) hZ530 (wT hw 86 rfl) (wT hw 7 rfl) (by decide) (by decide)) qa591 qc593 (g := (mkF m 576 #[.val (.int av), .val (.int bv), .val (.int cv), .val (.int dv), .val (.int mo), .val (.int chp), .val (.int chq), .val (.int chr), .val (.int chs), .val (.int ((mo &&& (2147483647 : Int32)) % (5 : Int32))), .val (.ref a391), .val (.ref a391)] [(.ref a391), (.ref a391)])) rfl (by rw [hml]; rfl) (Steps.refl _) (argsL := [(.ref a391)]) (rest := []) (lenOf own_h185 rfl) rfl (by show 2 * 0 + _ ≤ _; exact Nat.le_of_eq rfl) (hb hby at_576) (fun _ _ => ⟨rfl, e576, own_l rfl, own_l rfl⟩)
        dsimp only [Pt.U, Pt.locs, Pt.cells, Pt.slots] at X582 l_585 y_586 z_587 st588 hQ584
        replace l_585 := l_585.symm
        subst l_585 y_586 z_587
        obtain ⟨rfl, N594, e595⟩ := hQ584
        have N596 := Fr.app N577 N594
        have k59 : own_J p e below T578 m 579 #[.val (.int av), .val (.int bv), .val (.int cv), .val (.int dv), .val (.int mo), .val (.int chp), .val (.int chq), .val (.int chr), .val (.int chs), .val (.int ((mo &&& (2147483647 : Int32)) % (5 : Int32))), .val (.ref a391), .val (.ref a391)] [(.int (1 : Int32))] B_ := fun t_ hh => k58 t_ (st588.trans hh)
        clear k58 st588 X564 e576
        have k60 : own_J p e below T578 m 587 #[.val (.int av), .val (.int bv), .val (.int cv), .val (.int dv), .val (.int mo), .val (.int chp), .val (.int chq), .val (.int chr), .val (.int chs), .val (.int ((mo &&& (2147483647 : Int32)) % (5 : Int32))), .val (.ref a391), .val (.ref a391)] [(.int (1 : Int32))] B_ := fun t_ hh => k59 t_ (by
          refine XS.ifNo X582.here hx rfl (hb hby at_579) rfl (by decide) ?_
          refine XS.iconst X582.here hx rfl (hb hby at_582) ?_
          refine XS.goto X582.here hx rfl (pc0 := 583) (pc' := 587) rfl (hb hby at_583) (by decide) (by decide) ?_
          exact hh)
        clear k59
        obtain ⟨fs, hr, hrun, hended, hEnd⟩ := X582.leaveW hS529 (by rw [e595]; exact (Nat.le_refl T514.heap.size)) (v := some (.int (1 : Int32))) (fun h => by rw [Bd.returns] at h; cases h)
        refine ⟨_, _, (own_from hB_ (k60 _ (retN X582 hx (t := .boolean) Bd.returns (by simp) (hb hby at_587) hr))), hrun, hended, _, _, rfl, ?_, hEnd.1, hEnd.2.1, hEnd.2.2.1, hEnd.2.2.2.mono (own_l rfl) (own_l rfl)⟩
        show QL h0 n0 _ T578.heap _
        rw [e595]
        exact ⟨rfl, N596⟩
      ·
        have k61 : own_J p e below T63 m 118 #[.val (.int av), .val (.int bv), .val (.int cv), .val (.int dv), .val (.int mo), .val (.int chp), .val (.int chq), .val (.int chr), .val (.int chs), .val (.int ((mo &&& (2147483647 : Int32)) % (5 : Int32))), .unset, .unset] [(.int (3 : Int32)), (.int ((mo &&& (2147483647 : Int32)) % (5 : Int32)))] B_ := fun t_ hh => k40 t_ (by
          refine XS.icmpYes X67.here hx rfl (pc0 := 82) (pc' := 115) rfl (hb hby at_82) rfl (own_icT_ne c82) (by decide) (by decide) ?_
          refine XS.iload X67.here hx rfl (hb hby at_115) rfl ?_
          refine XS.iconst X67.here hx rfl (hb hby at_117) ?_
          exact hh)
        clear k40
        by_cases c118 : ((mo &&& (2147483647 : Int32)) % (5 : Int32)) = (3 : Int32)
        ·
          have k62 : own_J p e below T63 m 121 #[.val (.int av), .val (.int bv), .val (.int cv), .val (.int dv), .val (.int mo), .val (.int chp), .val (.int chq), .val (.int chr), .val (.int chs), .val (.int ((mo &&& (2147483647 : Int32)) % (5 : Int32))), .unset, .unset] [] B_ := fun t_ hh => k61 t_ (by
            refine XS.icmpNo X67.here hx rfl (hb hby at_118) rfl (own_icF_ne c118) ?_
            exact hh)
          clear k61
          obtain ⟨T597, h598, X599, e600, E601, A602, D603, U605, st604⟩ := newO X67 hx hZ hown (wT hw 87 rfl) (wT hw 15 rfl) (wT hw 7 rfl) e75 (g := (mkF m 121 #[.val (.int av), .val (.int bv), .val (.int cv), .val (.int dv), .val (.int mo), .val (.int chp), .val (.int chq), .val (.int chr), .val (.int chs), .val (.int ((mo &&& (2147483647 : Int32)) % (5 : Int32))), .unset, .unset] [])) rfl (hb hby at_121) (by decide) (by decide)
          obtain ⟨a606, g607⟩ : ∃ z, z = h0.size := ⟨_, rfl⟩
          rw [← g607] at A602 D603 U605 st604
          have G608 : n0 ≤ a606 := Nat.le_trans Z0 (Nat.le_of_eq g607.symm)
          have hk609 := Nat.le_trans hk0 E601.1
          have Z610 : n0 ≤ h598.size := Nat.le_trans Z0 E601.1
          have O611 := O0.ext E601
          have F612 : Fld Z h598 a606 "java/lang/String" "value" "[B" .null := D603 (Or.inr (wT hw 28 rfl)) (ty := .array .byte) (by decide)
          have F613 : Fld Z h598 a606 "java/lang/String" "coder" "B" (.int (0 : Int32)) := D603 (Or.inr (wT hw 30 rfl)) (ty := .byte) (by decide)
          have k63 : own_J p e below T597 m 124 #[.val (.int av), .val (.int bv), .val (.int cv), .val (.int dv), .val (.int mo), .val (.int chp), .val (.int chq), .val (.int chr), .val (.int chs), .val (.int ((mo &&& (2147483647 : Int32)) % (5 : Int32))), .unset, .unset] [(.ref a606)] B_ := fun t_ hh => k62 t_ (st604 t_ hh)
          clear k62 st604 X67 e75
          have k64 : own_J p e below T597 m 126 #[.val (.int av), .val (.int bv), .val (.int cv), .val (.int dv), .val (.int mo), .val (.int chp), .val (.int chq), .val (.int chr), .val (.int chs), .val (.int ((mo &&& (2147483647 : Int32)) % (5 : Int32))), .unset, .unset] [(.int (4 : Int32)), (.ref a606), (.ref a606)] B_ := fun t_ hh => k63 t_ (by
            refine XS.dup X599.here hx rfl (hb hby at_124) rfl rfl ?_
            refine XS.iconst X599.here hx rfl (hb hby at_125) ?_
            exact hh)
          clear k63
          obtain ⟨T614, h615, kA616, X617, e618, E619, A620, st622⟩ := newP X599 hx hZ (wT hw 88 rfl) e600 (g := (mkF m 126 #[.val (.int av), .val (.int bv), .val (.int cv), .val (.int dv), .val (.int mo), .val (.int chp), .val (.int chq), .val (.int chr), .val (.int chs), .val (.int ((mo &&& (2147483647 : Int32)) % (5 : Int32))), .unset, .unset] [(.int (4 : Int32)), (.ref a606), (.ref a606)])) rfl (hb hby at_126) rfl (by decide) (cap := 4) (by decide) (by decide) (by decide) (by decide)
          obtain ⟨a623, g624⟩ : ∃ z, z = h598.size := ⟨_, rfl⟩
          rw [← g624] at A620 st622
          have G625 : n0 ≤ a623 := Nat.le_trans Z610 (Nat.le_of_eq g624.symm)
          have hk626 := Nat.le_trans hk609 E619.1
          have F627 := Exa.ext (h' := h615) E619 A602
          have F628 := Fld.ext (h' := h615) E619 F612
          have F629 := Fld.ext (h' := h615) E619 F613
          have Z630 : n0 ≤ h615.size := Nat.le_trans Z610 E619.1
          have O631 := O611.ext E619
          have V632 : Arv Z h615 a623 kA616 .char (4 : Int32) [(.int (0 : Int32)), (.int (0 : Int32)), (.int (0 : Int32)), (.int (0 : Int32))] (.int (0 : Int32)) := Arv.pad (Arv.new A620 (by decide)) (pad_rep [] (.int (0 : Int32)) 4)
          have k65 : own_J p e below T614 m 128 #[.val (.int av), .val (.int bv), .val (.int cv), .val (.int dv), .val (.int mo), .val (.int chp), .val (.int chq), .val (.int chr), .val (.int chs), .val (.int ((mo &&& (2147483647 : Int32)) % (5 : Int32))), .unset, .unset] [(.ref a623), (.ref a606), (.ref a606)] B_ := fun t_ hh => k64 t_ (st622 t_ hh)
          clear k64 st622 X599 e600
          have k66 : own_J p e below T614 m 132 #[.val (.int av), .val (.int bv), .val (.int cv), .val (.int dv), .val (.int mo), .val (.int chp), .val (.int chq), .val (.int chr), .val (.int chs), .val (.int ((mo &&& (2147483647 : Int32)) % (5 : Int32))), .unset, .unset] [(.int chp), (.int (0 : Int32)), (.ref a623), (.ref a623), (.ref a606), (.ref a606)] B_ := fun t_ hh => k65 t_ (by
            refine XS.dup X617.here hx rfl (hb hby at_128) rfl rfl ?_
            refine XS.iconst X617.here hx rfl (hb hby at_129) ?_
            refine XS.iload X617.here hx rfl (hb hby at_130) rfl ?_
            exact hh)
          clear k65
          obtain ⟨cl633, Ar634, q635, S636, Ng637, H638, Gf639⟩ := id V632
          have hin640 := inb_of (j := (0 : Int32)) S636 (by decide)
          obtain ⟨T641, h642, X643, e644, W645, st646⟩ := stC X617 hx hZ e618 Ar634 (j := (0 : Int32)) hin640 (g := (mkF m 132 #[.val (.int av), .val (.int bv), .val (.int cv), .val (.int dv), .val (.int mo), .val (.int chp), .val (.int chq), .val (.int chr), .val (.int chs), .val (.int ((mo &&& (2147483647 : Int32)) % (5 : Int32))), .unset, .unset] [(.int chp), (.int (0 : Int32)), (.ref a623), (.ref a623), (.ref a606), (.ref a606)])) rfl rfl (hb hby at_132)
          have N647 := Fr.snoc X643 N76 G625
          have K648 : Keep h615 h642 [a623] := Keep.of_wr W645
          have V649 := Arv.set Ar634 q635 S636 Ng637 H638 Gf639 (v := (.int (nar .char chp))) (fits_nar_char _) W645 0 rfl (own_lt rfl)
          have k67 : own_J p e below T641 m 133 #[.val (.int av), .val (.int bv), .val (.int cv), .val (.int dv), .val (.int mo), .val (.int chp), .val (.int chq), .val (.int chr), .val (.int chs), .val (.int ((mo &&& (2147483647 : Int32)) % (5 : Int32))), .unset, .unset] [(.ref a623), (.ref a606), (.ref a606)] B_ := fun t_ hh => k66 t_ (st646 t_ hh)
          clear k66 st646 X617 e618 cl633 Ar634 q635 S636 Ng637 H638 Gf639 hin640 W645 V632 N76
          have k68 : own_J p e below T641 m 137 #[.val (.int av), .val (.int bv), .val (.int cv), .val (.int dv), .val (.int mo), .val (.int chp), .val (.int chq), .val (.int chr), .val (.int chs), .val (.int ((mo &&& (2147483647 : Int32)) % (5 : Int32))), .unset, .unset] [(.int chq), (.int (1 : Int32)), (.ref a623), (.ref a623), (.ref a606), (.ref a606)] B_ := fun t_ hh => k67 t_ (by
            refine XS.dup X643.here hx rfl (hb hby at_133) rfl rfl ?_
            refine XS.iconst X643.here hx rfl (hb hby at_134) ?_
            refine XS.iload X643.here hx rfl (hb hby at_135) rfl ?_
            exact hh)
          clear k67
          obtain ⟨cl650, Ar651, q652, S653, Ng654, H655, Gf656⟩ := id V649
          have hin657 := inb_of (j := (1 : Int32)) S653 (by decide)
          obtain ⟨T658, h659, X660, e661, W662, st663⟩ := stC X643 hx hZ e644 Ar651 (j := (1 : Int32)) hin657 (g := (mkF m 137 #[.val (.int av), .val (.int bv), .val (.int cv), .val (.int dv), .val (.int mo), .val (.int chp), .val (.int chq), .val (.int chr), .val (.int chs), .val (.int ((mo &&& (2147483647 : Int32)) % (5 : Int32))), .unset, .unset] [(.int chq), (.int (1 : Int32)), (.ref a623), (.ref a623), (.ref a606), (.ref a606)])) rfl rfl (hb hby at_137)
          have N664 := Fr.snoc X660 N647 G625
          have K665 : Keep h615 h659 [a623] := K648.wr W662 own_m0
          have V666 := Arv.set Ar651 q652 S653 Ng654 H655 Gf656 (v := (.int (nar .char chq))) (fits_nar_char _) W662 1 rfl (own_lt rfl)
          have k69 : own_J p e below T658 m 138 #[.val (.int av), .val (.int bv), .val (.int cv), .val (.int dv), .val (.int mo), .val (.int chp), .val (.int chq), .val (.int chr), .val (.int chs), .val (.int ((mo &&& (2147483647 : Int32)) % (5 : Int32))), .unset, .unset] [(.ref a623), (.ref a606), (.ref a606)] B_ := fun t_ hh => k68 t_ (st663 t_ hh)
          clear k68 st663 X643 e644 cl650 Ar651 q652 S653 Ng654 H655 Gf656 hin657 W662 K648 V649 N647
          have k70 : own_J p e below T658 m 142 #[.val (.int av), .val (.int bv), .val (.int cv), .val (.int dv), .val (.int mo), .val (.int chp), .val (.int chq), .val (.int chr), .val (.int chs), .val (.int ((mo &&& (2147483647 : Int32)) % (5 : Int32))), .unset, .unset] [(.int chr), (.int (2 : Int32)), (.ref a623), (.ref a623), (.ref a606), (.ref a606)] B_ := fun t_ hh => k69 t_ (by
            refine XS.dup X660.here hx rfl (hb hby at_138) rfl rfl ?_
            refine XS.iconst X660.here hx rfl (hb hby at_139) ?_
            refine XS.iload X660.here hx rfl (hb hby at_140) rfl ?_
            exact hh)
          clear k69
          obtain ⟨cl667, Ar668, q669, S670, Ng671, H672, Gf673⟩ := id V666
          have hin674 := inb_of (j := (2 : Int32)) S670 (by decide)
          obtain ⟨T675, h676, X677, e678, W679, st680⟩ := stC X660 hx hZ e661 Ar668 (j := (2 : Int32)) hin674 (g := (mkF m 142 #[.val (.int av), .val (.int bv), .val (.int cv), .val (.int dv), .val (.int mo), .val (.int chp), .val (.int chq), .val (.int chr), .val (.int chs), .val (.int ((mo &&& (2147483647 : Int32)) % (5 : Int32))), .unset, .unset] [(.int chr), (.int (2 : Int32)), (.ref a623), (.ref a623), (.ref a606), (.ref a606)])) rfl rfl (hb hby at_142)
          have N681 := Fr.snoc X677 N664 G625
          have K682 : Keep h615 h676 [a623] := K665.wr W679 own_m0
          have V683 : Arv Z h676 a623 kA616 .char (4 : Int32) [(.int (nar .char chp)), (.int (nar .char chq)), (.int (nar .char chr)), (.int (0 : Int32))] (.int (0 : Int32)) := Arv.set Ar668 q669 S670 Ng671 H672 Gf673 (fits_nar_char _) W679 2 rfl (own_lt rfl)
          have k71 : own_J p e below T675 m 143 #[.val (.int av), .val (.int bv), .val (.int cv), .val (.int dv), .val (.int mo), .val (.int chp), .val (.int chq), .val (.int chr), .val (.int chs), .val (.int ((mo &&& (2147483647 : Int32)) % (5 : Int32))), .unset, .unset] [(.ref a623), (.ref a606), (.ref a606)] B_ := fun t_ hh => k70 t_ (st680 t_ hh)
          clear k70 st680 X660 e661 cl667 Ar668 q669 S670 Ng671 H672 Gf673 hin674 W679 K665 V666 N664
          have k72 : own_J p e below T675 m 147 #[.val (.int av), .val (.int bv), .val (.int cv), .val (.int dv), .val (.int mo), .val (.int chp), .val (.int chq), .val (.int chr), .val (.int chs), .val (.int ((mo &&& (2147483647 : Int32)) % (5 : Int32))), .unset, .unset] [(.int chs), (.int (3 : Int32)), (.ref a623), (.ref a623), (.ref a606), (.ref a606)] B_ := fun t_ hh => k71 t_ (by
            refine XS.dup X677.here hx rfl (hb hby at_143) rfl rfl ?_
            refine XS.iconst X677.here hx rfl (hb hby at_144) ?_
            refine XS.iload X677.here hx rfl (hb hby at_145) rfl ?_
            exact hh)
          clear k71
          obtain ⟨cl684, Ar685, q686, S687, Ng688, H689, Gf690⟩ := id V683
          have hin691 := inb_of (j := (3 : Int32)) S687 (by decide)
          obtain ⟨T692, h693, X694, e695, W696, st697⟩ := stC X677 hx hZ e678 Ar685 (j := (3 : Int32)) hin691 (g := (mkF m 147 #[.val (.int av), .val (.int bv), .val (.int cv), .val (.int dv), .val (.int mo), .val (.int chp), .val (.int chq), .val (.int chr), .val (.int chs), .val (.int ((mo &&& (2147483647 : Int32)) % (5 : Int32))), .unset, .unset] [(.int chs), (.int (3 : Int32)), (.ref a623), (.ref a623), (.ref a606), (.ref a606)])) rfl rfl (hb hby at_147)
          have N698 := Fr.snoc X694 N681 G625
          have K699 : Keep h615 h693 [a623] := K682.wr W696 own_m0
          have V700 := Arv.set Ar685 q686 S687 Ng688 H689 Gf690 (v := (.int (nar .char chs))) (fits_nar_char _) W696 3 rfl (own_lt rfl)
          have k73 : own_J p e below T692 m 148 #[.val (.int av), .val (.int bv), .val (.int cv), .val (.int dv), .val (.int mo), .val (.int chp), .val (.int chq), .val (.int chr), .val (.int chs), .val (.int ((mo &&& (2147483647 : Int32)) % (5 : Int32))), .unset, .unset] [(.ref a623), (.ref a606), (.ref a606)] B_ := fun t_ hh => k72 t_ (st697 t_ hh)
          clear k72 st697 X677 e678 cl684 Ar685 q686 S687 Ng688 H689 Gf690 hin691 W696 K682 V683 N681
          have V701 : Arv Z h693 a623 kA616 .char (4 : Int32) [(.int (nar .char chp)), (.int (nar .char chq)), (.int (nar .char chr)), (.int (nar .char chs))] (.int (0 : Int32)) := V700
          have F702 := F627.keep K699
          have ne704 : a606 ≠ a623 := by rw [g624]; exact Nat.ne_of_lt A602.lt
          have F703 := F628.keep K699 (ninS ne704 nin0)
          have F705 := F629.keep K699 (ninS ne704 nin0)
          have Z706 : n0 ≤ h693.size := Nat.le_trans Z630 K699.1
          have hk707 := Nat.le_trans hk626 K699.1
          have O708 := O631.keep K699 (allS G625 all0)
          have hp709 : ∀ c ∈ ([(nar .char chp), (nar .char chq), (nar .char chr), (nar .char chs)] : List Int32), own_ok c := (List.forall_mem_cons.mpr ⟨(own_ok_narok okp), (List.forall_mem_cons.mpr ⟨(own_ok_narok okq), (List.forall_mem_cons.mpr ⟨(own_ok_narok okr), (List.forall_mem_cons.mpr ⟨(own_ok_narok oks), (fun _ q => nomatch q)⟩)⟩)⟩)⟩)
          have F710 : Arv Z h693 a623 kA616 .char (Int32.ofNat 4) (([(nar .char chp), (nar .char chq), (nar .char chr), (nar .char chs)] : List Int32).map Value.int) (.int 0) := V701
          obtain ⟨cs711, hp712, hl713, F714⟩ : ∃ z : List Int32, (∀ c ∈ z, own_ok c) ∧ z.length = 4 ∧ Arv Z h693 a623 kA616 .char (Int32.ofNat 4) (z.map Value.int) (.int 0) := ⟨_, hp709, rfl, F710⟩
          have F715 : Arv Z h693 a623 kA616 .char (Int32.ofNat (List.length cs711)) (cs711.map Value.int) (.int 0) := own_lenA hl713 F714
          clear F714 F710 V701 hp709
          obtain ⟨_, _, ⟨T716, L717, k_718, n_719⟩, -, X720, ⟨Lc721, hQ722, l_723, y_724, z_725⟩, st726⟩ := X694.specialBack hx (y := (⟨"java/lang/String", "<init>", "([C)V"⟩ : MethodName)) rfl hown (mvT hZ (wT hw 89 rfl)) (mvT hZ (wT hw 90 rfl)) (mvT hZ (wT hw 91 rfl)) (by decide) (StrChars.Road.backV (W := 1) hZ (fun d hd => hw d (own_sub_words d hd)) (kI := 4) (wT hw 15 rfl) (cs := cs711) (n0 := n0) G608 Z706 F702 F703 F705 F715 (Sta.ext O708.2 sC) hc hl713 (congrArg Int32.ofNat hl713) (own_lt rfl) (own_l rfl) (fun c hc => own_ok_b8 (hp712 c hc)) rfl (by decide) (by decide)) (g := (mkF m 148 #[.val (.int av), .val (.int bv), .val (.int cv), .val (.int dv), .val (.int mo), .val (.int chp), .val (.int chq), .val (.int chr), .val (.int chs), .val (.int ((mo &&& (2147483647 : Int32)) % (5 : Int32))), .unset, .unset] [(.ref a623), (.ref a606), (.ref a606)])) rfl (by rw [hml]; rfl) (Steps.refl _) (a := a606) (argsL := [(.ref a623)]) (rest := [(.ref a606)]) (lenOf own_h186 rfl) rfl (by show 2 * 0 + _ ≤ _; exact Nat.le_of_eq rfl) (hb hby at_148) (fun _ _ => ⟨rfl, e695, own_l rfl, own_l rfl⟩)
          dsimp only [Pt.U, Pt.locs, Pt.cells, Pt.slots] at X720 l_723 y_724 z_725 st726 hQ722
          replace l_723 := l_723.symm
          subst l_723 y_724 z_725
          obtain ⟨rfl, N727, K728, E729, F730, t731, kb732, G733, G734, G735, F736, F737⟩ := hQ722
          have N738 := Fr.app N698 N727
          have F739 := F702.keep K728
          have F740 := F715.keep K728 (ninS (Ne.symm ne704) nin0)
          have Z741 : n0 ≤ T716.heap.size := Nat.le_trans Z706 K728.1
          have hk742 := Nat.le_trans hk707 K728.1
          have O743 := O708.keep K728 (allS G608 all0)
          have S744 : own_Str Z T716.heap a606 t731 kb732 cs711 := ⟨E729, F736, F730, F737⟩
          have e745 : T716.heap = T716.heap := rfl
          have k74 : own_J p e below T716 m 151 #[.val (.int av), .val (.int bv), .val (.int cv), .val (.int dv), .val (.int mo), .val (.int chp), .val (.int chq), .val (.int chr), .val (.int chs), .val (.int ((mo &&& (2147483647 : Int32)) % (5 : Int32))), .unset, .unset] [(.ref a606)] B_ := fun t_ hh => k73 t_ (st726.trans hh)
          clear k73 st726 X694 e695
          have k75 : own_J p e below T716 m 549 #[.val (.int av), .val (.int bv), .val (.int cv), .val (.int dv), .val (.int mo), .val (.int chp), .val (.int chq), .val (.int chr), .val (.int chs), .val (.int ((mo &&& (2147483647 : Int32)) % (5 : Int32))), .val (.ref a606), .unset] [(.ref a606)] B_ := fun t_ hh => k74 t_ (by
            refine XS.astore X720.here hx rfl (hb hby at_151) rfl rfl (l' := #[.val (.int av), .val (.int bv), .val (.int cv), .val (.int dv), .val (.int mo), .val (.int chp), .val (.int chq), .val (.int chr), .val (.int chs), .val (.int ((mo &&& (2147483647 : Int32)) % (5 : Int32))), .val (.ref a606), .unset]) rfl ?_
            refine XS.goto X720.here hx rfl (pc0 := 153) (pc' := 547) rfl (hb hby at_153) (by decide) (by decide) ?_
            refine XS.aload X720.here hx rfl (hb hby at_547) rfl rfl ?_
            exact hh)
          clear k74
          obtain ⟨_, _, ⟨T746, L747, k_748, n_749⟩, -, X750, hSc757, hgr758, ⟨Lc751, hQ752, l_753, y_754, z_755⟩, st756⟩ := callSS X720 hx (y := (⟨"com/example/tidying/tidying/PoolNames", "requireValid", "(Ljava/lang/String;)Ljava/lang/String;"⟩ : MethodName)) hown (mvT hZ (wT hw 31 rfl)) (mvT hZ (wT hw 32 rfl)) (mvT hZ (wT hw 33 rfl)) (mvT hZ (wT hw 34 rfl)) (by decide) (backOfS (W := 0) (rmV l Z a0 hw [] a606 t731 kb732 cs711 T716.heap n0 Z741 S744 O743 ci sC hc gv sG hg (own_lenp hl713 (own_lt rfl)) (own_lenl hl713 (own_l rfl)) hp712) hZ (wT hw 34 rfl) (wT hw 33 rfl) (by decide) (by decide)) (g := (mkF m 549 #[.val (.int av), .val (.int bv), .val (.int cv), .val (.int dv), .val (.int mo), .val (.int chp), .val (.int chq), .val (.int chr), .val (.int chs), .val (.int ((mo &&& (2147483647 : Int32)) % (5 : Int32))), .val (.ref a606), .unset] [(.ref a606)])) rfl (by rw [hml]; rfl) (argsL := [(.ref a606)]) (rest := []) (lenOf own_h177 rfl) rfl (by show 2 * 0 + _ ≤ _; exact Nat.le_of_eq rfl) (hb hby at_549) (fun _ _ => ⟨rfl, e745, own_l rfl, own_l rfl⟩)
          dsimp only [Pt.U, Pt.locs, Pt.cells, Pt.slots] at X750 hSc757 hgr758 l_753 y_754 z_755 st756 hQ752
          replace l_753 := l_753.symm
          subst l_753 y_754 z_755
          obtain ⟨X760, hS761, hZ762, hown763⟩ := rebS hS0 (by rw [e745]; exact hk742) X750 hSc757 hgr758 hZ hown
          obtain ⟨rfl, N764, K765⟩ := hQ752
          have N766 := Fr.app N738 N764
          have F767 := E729.keep K765
          have F768 := F740.keep K765 nin0
          have Z769 : n0 ≤ T746.heap.size := Nat.le_trans Z741 K765.1
          have hk770 := Nat.le_trans hk742 K765.1
          have O771 := O743.keep K765 all0
          have S772 := S744.keep K765 nin0 nin0
          have e773 : T746.heap = T746.heap := rfl
          have k76 : own_J p e below T746 m 552 #[.val (.int av), .val (.int bv), .val (.int cv), .val (.int dv), .val (.int mo), .val (.int chp), .val (.int chq), .val (.int chr), .val (.int chs), .val (.int ((mo &&& (2147483647 : Int32)) % (5 : Int32))), .val (.ref a606), .unset] [(.ref a606)] B_ := fun t_ hh => k75 t_ (st756.trans hh)
          clear k75 st756 X720 e745
          have k77 : own_J p e below T746 m 561 #[.val (.int av), .val (.int bv), .val (.int cv), .val (.int dv), .val (.int mo), .val (.int chp), .val (.int chq), .val (.int chr), .val (.int chs), .val (.int ((mo &&& (2147483647 : Int32)) % (5 : Int32))), .val (.ref a606), .val (.ref a606)] [(.ref a606)] B_ := fun t_ hh => k76 t_ (by
            refine XS.astore X760.here hx rfl (hb hby at_552) rfl rfl (l' := #[.val (.int av), .val (.int bv), .val (.int cv), .val (.int dv), .val (.int mo), .val (.int chp), .val (.int chq), .val (.int chr), .val (.int chs), .val (.int ((mo &&& (2147483647 : Int32)) % (5 : Int32))), .val (.ref a606), .val (.ref a606)]) rfl ?_
            refine XS.aload X760.here hx rfl (hb hby at_554) rfl rfl ?_
            refine XS.ifnullNo X760.here hx rfl (hb hby at_556) rfl ?_
            refine XS.aload X760.here hx rfl (hb hby at_559) rfl rfl ?_
            exact hh)
          clear k76
          obtain ⟨cq785, kq786, qa787, qb788, qc789⟩ := isOf hZ762 e773 F767
          obtain ⟨_, _, ⟨T774, L775, k_776, n_777⟩, -, X778, ⟨Lc779, hQ780, l_781, y_782, z_783⟩, st784⟩ := X760.virtualBack hx (y := (⟨"java/lang/String", "length", "()I"⟩ : MethodName)) (z := (⟨"java/lang/String", "length", "()I"⟩ : MethodName)) hown763 (mvT hZ762 (wT hw 81 rfl)) (mvT hZ762 (wT hw 43 rfl)) (notFace_of_selects (args := #[]) (mvT hZ762 (wT hw 45 rfl))) (mvT hZ762 (wT hw 45 rfl)) (mvT hZ762 (wT hw 44 rfl)) (by decide) (StrChars.Road.lenW (W := 0) hZ762 (fun d hd => hw d (own_sub_wordsLen d hd)) (kI := 4) (wT hw 15 rfl) S772.1 S772.2.1 S772.2.2.1 S772.2.2.2 (own_cod (fun c hc => own_ok_b8 (hp712 c hc))) (fun c hc => ((fun c hc => own_ok_b8 (hp712 c hc)) c hc).up) (Sta.ext O771.2 sC) hc (own_lenl hl713 (own_l rfl)) (by decide) (by decide)) qa787 qc789 (g := (mkF m 561 #[.val (.int av), .val (.int bv), .val (.int cv), .val (.int dv), .val (.int mo), .val (.int chp), .val (.int chq), .val (.int chr), .val (.int chs), .val (.int ((mo &&& (2147483647 : Int32)) % (5 : Int32))), .val (.ref a606), .val (.ref a606)] [(.ref a606)])) rfl (by rw [hml]; rfl) (Steps.refl _) (argsL := []) (rest := []) (lenOf own_h179 rfl) rfl (by show 2 * 0 + _ ≤ _; exact Nat.le_of_eq rfl) (hb hby at_561) (fun _ _ => ⟨rfl, e773, own_l rfl, own_l rfl⟩)
          dsimp only [Pt.U, Pt.locs, Pt.cells, Pt.slots] at X778 l_781 y_782 z_783 st784 hQ780
          replace l_781 := l_781.symm
          subst l_781 y_782 z_783
          obtain ⟨rfl, rfl, e790⟩ := hQ780
          have N791 := Fr.app N766 (Fr.nil n0)
          have k78 : own_J p e below T774 m 564 #[.val (.int av), .val (.int bv), .val (.int cv), .val (.int dv), .val (.int mo), .val (.int chp), .val (.int chq), .val (.int chr), .val (.int chs), .val (.int ((mo &&& (2147483647 : Int32)) % (5 : Int32))), .val (.ref a606), .val (.ref a606)] [(.int (Int32.ofNat (List.length (cs711 : List Int32))))] B_ := fun t_ hh => k77 t_ (st784.trans hh)
          clear k77 st784 X760 e773
          have k79 : own_J p e below T774 m 566 #[.val (.int av), .val (.int bv), .val (.int cv), .val (.int dv), .val (.int mo), .val (.int chp), .val (.int chq), .val (.int chr), .val (.int chs), .val (.int ((mo &&& (2147483647 : Int32)) % (5 : Int32))), .val (.ref a606), .val (.ref a606)] [(.ref a606), (.int (Int32.ofNat (List.length (cs711 : List Int32))))] B_ := fun t_ hh => k78 t_ (by
            refine XS.aload X778.here hx rfl (hb hby at_564) rfl rfl ?_
            exact hh)
          clear k78
          obtain ⟨cq803, kq804, qa805, qb806, qc807⟩ := isOf hZ762 e790 F767
          obtain ⟨_, _, ⟨T792, L793, k_794, n_795⟩, -, X796, ⟨Lc797, hQ798, l_799, y_800, z_801⟩, st802⟩ := X778.virtualBack hx (y := (⟨"java/lang/String", "length", "()I"⟩ : MethodName)) (z := (⟨"java/lang/String", "length", "()I"⟩ : MethodName)) hown763 (mvT hZ762 (wT hw 81 rfl)) (mvT hZ762 (wT hw 43 rfl)) (notFace_of_selects (args := #[]) (mvT hZ762 (wT hw 45 rfl))) (mvT hZ762 (wT hw 45 rfl)) (mvT hZ762 (wT hw 44 rfl)) (by decide) (StrChars.Road.lenW (W := 1) hZ762 (fun d hd => hw d (own_sub_wordsLen d hd)) (kI := 4) (wT hw 15 rfl) S772.1 S772.2.1 S772.2.2.1 S772.2.2.2 (own_cod (fun c hc => own_ok_b8 (hp712 c hc))) (fun c hc => ((fun c hc => own_ok_b8 (hp712 c hc)) c hc).up) (Sta.ext O771.2 sC) hc (own_lenl hl713 (own_l rfl)) (by decide) (by decide)) qa805 qc807 (g := (mkF m 566 #[.val (.int av), .val (.int bv), .val (.int cv), .val (.int dv), .val (.int mo), .val (.int chp), .val (.int chq), .val (.int chr), .val (.int chs), .val (.int ((mo &&& (2147483647 : Int32)) % (5 : Int32))), .val (.ref a606), .val (.ref a606)] [(.ref a606), (.int (Int32.ofNat (List.length (cs711 : List Int32))))])) rfl (by rw [hml]; rfl) (Steps.refl _) (argsL := []) (rest := [(.int (Int32.ofNat (List.length (cs711 : List Int32))))]) (lenOf own_h179 rfl) rfl (by show 2 * 0 + _ ≤ _; exact Nat.le_of_eq rfl) (hb hby at_566) (fun _ _ => ⟨rfl, e790, own_l rfl, own_l rfl⟩)
          dsimp only [Pt.U, Pt.locs, Pt.cells, Pt.slots] at X796 l_799 y_800 z_801 st802 hQ798
          replace l_799 := l_799.symm
          subst l_799 y_800 z_801
          obtain ⟨rfl, rfl, e808⟩ := hQ798
          have N809 := Fr.app N791 (Fr.nil n0)
          have k80 : own_J p e below T792 m 569 #[.val (.int av), .val (.int bv), .val (.int cv), .val (.int dv), .val (.int mo), .val (.int chp), .val (.int chq), .val (.int chr), .val (.int chs), .val (.int ((mo &&& (2147483647 : Int32)) % (5 : Int32))), .val (.ref a606), .val (.ref a606)] [(.int (Int32.ofNat (List.length (cs711 : List Int32)))), (.int (Int32.ofNat (List.length (cs711 : List Int32))))] B_ := fun t_ hh => k79 t_ (st802.trans hh)
          clear k79 st802 X778 e790
          have k81 : own_J p e below T792 m 576 #[.val (.int av), .val (.int bv), .val (.int cv), .val (.int dv), .val (.int mo), .val (.int chp), .val (.int chq), .val (.int chr), .val (.int chs), .val (.int ((mo &&& (2147483647 : Int32)) % (5 : Int32))), .val (.ref a606), .val (.ref a606)] [(.ref a606), (.ref a606)] B_ := fun t_ hh => k80 t_ (by
            refine XS.icmpNo X796.here hx rfl (hb hby at_569) rfl (own_icF_ne rfl) ?_
            refine XS.aload X796.here hx rfl (hb hby at_572) rfl rfl ?_
            refine XS.aload X796.here hx rfl (hb hby at_574) rfl rfl ?_
            exact hh)
          clear k80
          obtain ⟨cq821, kq822, qa823, qb824, qc825⟩ := isOf hZ762 e808 F767
          obtain ⟨_, _, ⟨T810, L811, k_812, n_813⟩, -, X814, ⟨Lc815, hQ816, l_817, y_818, z_819⟩, st820⟩ := X796.virtualBack hx (y := (⟨"java/lang/String", "equals", "(Ljava/lang/Object;)Z"⟩ : MethodName)) (z := (⟨"java/lang/String", "equals", "(Ljava/lang/Object;)Z"⟩ : MethodName)) hown763 (mvT hZ762 (wT hw 82 rfl)) (mvT hZ762 (wT hw 83 rfl)) (notFace_of_selects (args := #[]) (mvT hZ762 (wT hw 85 rfl))) (mvT hZ762 (wT hw 85 rfl)) (mvT hZ762 (wT hw 84 rfl)) (by decide) (backOf (W := 0) (rmEq l Z a0 hw [] a606 T746.heap n0 Z769) hZ762 (wT hw 86 rfl) (wT hw 7 rfl) (by decide) (by decide)) qa823 qc825 (g := (mkF m 576 #[.val (.int av), .val (.int bv), .val (.int cv), .val (.int dv), .val (.int mo), .val (.int chp), .val (.int chq), .val (.int chr), .val (.int chs), .val (.int ((mo &&& (2147483647 : Int32)) % (5 : Int32))), .val (.ref a606), .val (.ref a606)] [(.ref a606), (.ref a606)])) rfl (by rw [hml]; rfl) (Steps.refl _) (argsL := [(.ref a606)]) (rest := []) (lenOf own_h185 rfl) rfl (by show 2 * 0 + _ ≤ _; exact Nat.le_of_eq rfl) (hb hby at_576) (fun _ _ => ⟨rfl, e808, own_l rfl, own_l rfl⟩)
          dsimp only [Pt.U, Pt.locs, Pt.cells, Pt.slots] at X814 l_817 y_818 z_819 st820 hQ816
          replace l_817 := l_817.symm
          subst l_817 y_818 z_819
          obtain ⟨rfl, N826, e827⟩ := hQ816
          have N828 := Fr.app N809 N826
          have k82 : own_J p e below T810 m 579 #[.val (.int av), .val (.int bv), .val (.int cv), .val (.int dv), .val (.int mo), .val (.int chp), .val (.int chq), .val (.int chr), .val (.int chs), .val (.int ((mo &&& (2147483647 : Int32)) % (5 : Int32))), .val (.ref a606), .val (.ref a606)] [(.int (1 : Int32))] B_ := fun t_ hh => k81 t_ (st820.trans hh)
          clear k81 st820 X796 e808
          have k83 : own_J p e below T810 m 587 #[.val (.int av), .val (.int bv), .val (.int cv), .val (.int dv), .val (.int mo), .val (.int chp), .val (.int chq), .val (.int chr), .val (.int chs), .val (.int ((mo &&& (2147483647 : Int32)) % (5 : Int32))), .val (.ref a606), .val (.ref a606)] [(.int (1 : Int32))] B_ := fun t_ hh => k82 t_ (by
            refine XS.ifNo X814.here hx rfl (hb hby at_579) rfl (by decide) ?_
            refine XS.iconst X814.here hx rfl (hb hby at_582) ?_
            refine XS.goto X814.here hx rfl (pc0 := 583) (pc' := 587) rfl (hb hby at_583) (by decide) (by decide) ?_
            exact hh)
          clear k82
          obtain ⟨fs, hr, hrun, hended, hEnd⟩ := X814.leaveW hS761 (by rw [e827]; exact (Nat.le_refl T746.heap.size)) (v := some (.int (1 : Int32))) (fun h => by rw [Bd.returns] at h; cases h)
          refine ⟨_, _, (own_from hB_ (k83 _ (retN X814 hx (t := .boolean) Bd.returns (by simp) (hb hby at_587) hr))), hrun, hended, _, _, rfl, ?_, hEnd.1, hEnd.2.1, hEnd.2.2.1, hEnd.2.2.2.mono (own_l rfl) (own_l rfl)⟩
          show QL h0 n0 _ T810.heap _
          rw [e827]
          exact ⟨rfl, N828⟩
        ·
          have k84 : own_J p e below T63 m 156 #[.val (.int av), .val (.int bv), .val (.int cv), .val (.int dv), .val (.int mo), .val (.int chp), .val (.int chq), .val (.int chr), .val (.int chs), .val (.int ((mo &&& (2147483647 : Int32)) % (5 : Int32))), .unset, .unset] [] B_ := fun t_ hh => k61 t_ (by
            refine XS.icmpYes X67.here hx rfl (pc0 := 118) (pc' := 156) rfl (hb hby at_118) rfl (own_icT_ne c118) (by decide) (by decide) ?_
            exact hh)
          clear k61
          obtain ⟨T829, h830, X831, e832, E833, A834, D835, U837, st836⟩ := newO X67 hx hZ hown (wT hw 87 rfl) (wT hw 15 rfl) (wT hw 7 rfl) e75 (g := (mkF m 156 #[.val (.int av), .val (.int bv), .val (.int cv), .val (.int dv), .val (.int mo), .val (.int chp), .val (.int chq), .val (.int chr), .val (.int chs), .val (.int ((mo &&& (2147483647 : Int32)) % (5 : Int32))), .unset, .unset] [])) rfl (hb hby at_156) (by decide) (by decide)
          obtain ⟨a838, g839⟩ : ∃ z, z = h0.size := ⟨_, rfl⟩
          rw [← g839] at A834 D835 U837 st836
          have G840 : n0 ≤ a838 := Nat.le_trans Z0 (Nat.le_of_eq g839.symm)
          have hk841 := Nat.le_trans hk0 E833.1
          have Z842 : n0 ≤ h830.size := Nat.le_trans Z0 E833.1
          have O843 := O0.ext E833
          have F844 : Fld Z h830 a838 "java/lang/String" "value" "[B" .null := D835 (Or.inr (wT hw 28 rfl)) (ty := .array .byte) (by decide)
          have F845 : Fld Z h830 a838 "java/lang/String" "coder" "B" (.int (0 : Int32)) := D835 (Or.inr (wT hw 30 rfl)) (ty := .byte) (by decide)
          have k85 : own_J p e below T829 m 159 #[.val (.int av), .val (.int bv), .val (.int cv), .val (.int dv), .val (.int mo), .val (.int chp), .val (.int chq), .val (.int chr), .val (.int chs), .val (.int ((mo &&& (2147483647 : Int32)) % (5 : Int32))), .unset, .unset] [(.ref a838)] B_ := fun t_ hh => k84 t_ (st836 t_ hh)
          clear k84 st836 X67 e75
          have k86 : own_J p e below T829 m 162 #[.val (.int av), .val (.int bv), .val (.int cv), .val (.int dv), .val (.int mo), .val (.int chp), .val (.int chq), .val (.int chr), .val (.int chs), .val (.int ((mo &&& (2147483647 : Int32)) % (5 : Int32))), .unset, .unset] [(.int (64 : Int32)), (.ref a838), (.ref a838)] B_ := fun t_ hh => k85 t_ (by
            refine XS.dup X831.here hx rfl (hb hby at_159) rfl rfl ?_
            refine XS.bipush X831.here hx rfl (hb hby at_160) ?_
            exact hh)
          clear k85
          obtain ⟨T846, h847, kA848, X849, e850, E851, A852, st854⟩ := newP X831 hx hZ (wT hw 88 rfl) e832 (g := (mkF m 162 #[.val (.int av), .val (.int bv), .val (.int cv), .val (.int dv), .val (.int mo), .val (.int chp), .val (.int chq), .val (.int chr), .val (.int chs), .val (.int ((mo &&& (2147483647 : Int32)) % (5 : Int32))), .unset, .unset] [(.int (64 : Int32)), (.ref a838), (.ref a838)])) rfl (hb hby at_162) rfl (by decide) (cap := 64) (by decide) (by decide) (by decide) (by decide)
          obtain ⟨a855, g856⟩ : ∃ z, z = h830.size := ⟨_, rfl⟩
          rw [← g856] at A852 st854
          have G857 : n0 ≤ a855 := Nat.le_trans Z842 (Nat.le_of_eq g856.symm)
          have hk858 := Nat.le_trans hk841 E851.1
          have F859 := Exa.ext (h' := h847) E851 A834
          have F860 := Fld.ext (h' := h847) E851 F844
          have F861 := Fld.ext (h' := h847) E851 F845
          have Z862 : n0 ≤ h847.size := Nat.le_trans Z842 E851.1
          have O863 := O843.ext E851
          have V864 : Arv Z h847 a855 kA848 .char (64 : Int32) [(.int (0 : Int32)), (.int (0 : Int32)), (.int (0 : Int32)), (.int (0 : Int32)), (.int (0 : Int32)), (.int (0 : Int32)), (.int (0 : Int32)), (.int (0 : Int32)), (.int (0 : Int32)), (.int (0 : Int32)), (.int (0 : Int32)), (.int (0 : Int32)), (.int (0 : Int32)), (.int (0 : Int32)), (.int (0 : Int32)), (.int (0 : Int32)), (.int (0 : Int32)), (.int (0 : Int32)), (.int (0 : Int32)), (.int (0 : Int32)), (.int (0 : Int32)), (.int (0 : Int32)), (.int (0 : Int32)), (.int (0 : Int32)), (.int (0 : Int32)), (.int (0 : Int32)), (.int (0 : Int32)), (.int (0 : Int32)), (.int (0 : Int32)), (.int (0 : Int32)), (.int (0 : Int32)), (.int (0 : Int32)), (.int (0 : Int32)), (.int (0 : Int32)), (.int (0 : Int32)), (.int (0 : Int32)), (.int (0 : Int32)), (.int (0 : Int32)), (.int (0 : Int32)), (.int (0 : Int32)), (.int (0 : Int32)), (.int (0 : Int32)), (.int (0 : Int32)), (.int (0 : Int32)), (.int (0 : Int32)), (.int (0 : Int32)), (.int (0 : Int32)), (.int (0 : Int32)), (.int (0 : Int32)), (.int (0 : Int32)), (.int (0 : Int32)), (.int (0 : Int32)), (.int (0 : Int32)), (.int (0 : Int32)), (.int (0 : Int32)), (.int (0 : Int32)), (.int (0 : Int32)), (.int (0 : Int32)), (.int (0 : Int32)), (.int (0 : Int32)), (.int (0 : Int32)), (.int (0 : Int32)), (.int (0 : Int32)), (.int (0 : Int32))] (.int (0 : Int32)) := Arv.pad (Arv.new A852 (by decide)) (pad_rep [] (.int (0 : Int32)) 64)
          have k87 : own_J p e below T846 m 164 #[.val (.int av), .val (.int bv), .val (.int cv), .val (.int dv), .val (.int mo), .val (.int chp), .val (.int chq), .val (.int chr), .val (.int chs), .val (.int ((mo &&& (2147483647 : Int32)) % (5 : Int32))), .unset, .unset] [(.ref a855), (.ref a838), (.ref a838)] B_ := fun t_ hh => k86 t_ (st854 t_ hh)
          clear k86 st854 X831 e832
          have k88 : own_J p e below T846 m 168 #[.val (.int av), .val (.int bv), .val (.int cv), .val (.int dv), .val (.int mo), .val (.int chp), .val (.int chq), .val (.int chr), .val (.int chs), .val (.int ((mo &&& (2147483647 : Int32)) % (5 : Int32))), .unset, .unset] [(.int chp), (.int (0 : Int32)), (.ref a855), (.ref a855), (.ref a838), (.ref a838)] B_ := fun t_ hh => k87 t_ (by
            refine XS.dup X849.here hx rfl (hb hby at_164) rfl rfl ?_
            refine XS.iconst X849.here hx rfl (hb hby at_165) ?_
            refine XS.iload X849.here hx rfl (hb hby at_166) rfl ?_
            exact hh)
          clear k87
          obtain ⟨cl865, Ar866, q867, S868, Ng869, H870, Gf871⟩ := id V864
          have hin872 := inb_of (j := (0 : Int32)) S868 (by decide)
          obtain ⟨T873, h874, X875, e876, W877, st878⟩ := stC X849 hx hZ e850 Ar866 (j := (0 : Int32)) hin872 (g := (mkF m 168 #[.val (.int av), .val (.int bv), .val (.int cv), .val (.int dv), .val (.int mo), .val (.int chp), .val (.int chq), .val (.int chr), .val (.int chs), .val (.int ((mo &&& (2147483647 : Int32)) % (5 : Int32))), .unset, .unset] [(.int chp), (.int (0 : Int32)), (.ref a855), (.ref a855), (.ref a838), (.ref a838)])) rfl rfl (hb hby at_168)
          have N879 := Fr.snoc X875 N76 G857
          have K880 : Keep h847 h874 [a855] := Keep.of_wr W877
          have V881 := Arv.set Ar866 q867 S868 Ng869 H870 Gf871 (v := (.int (nar .char chp))) (fits_nar_char _) W877 0 rfl (own_lt rfl)
          have k89 : own_J p e below T873 m 169 #[.val (.int av), .val (.int bv), .val (.int cv), .val (.int dv), .val (.int mo), .val (.int chp), .val (.int chq), .val (.int chr), .val (.int chs), .val (.int ((mo &&& (2147483647 : Int32)) % (5 : Int32))), .unset, .unset] [(.ref a855), (.ref a838), (.ref a838)] B_ := fun t_ hh => k88 t_ (st878 t_ hh)
          clear k88 st878 X849 e850 cl865 Ar866 q867 S868 Ng869 H870 Gf871 hin872 W877 V864 N76
          have k90 : own_J p e below T873 m 173 #[.val (.int av), .val (.int bv), .val (.int cv), .val (.int dv), .val (.int mo), .val (.int chp), .val (.int chq), .val (.int chr), .val (.int chs), .val (.int ((mo &&& (2147483647 : Int32)) % (5 : Int32))), .unset, .unset] [(.int chq), (.int (1 : Int32)), (.ref a855), (.ref a855), (.ref a838), (.ref a838)] B_ := fun t_ hh => k89 t_ (by
            refine XS.dup X875.here hx rfl (hb hby at_169) rfl rfl ?_
            refine XS.iconst X875.here hx rfl (hb hby at_170) ?_
            refine XS.iload X875.here hx rfl (hb hby at_171) rfl ?_
            exact hh)
          clear k89
          obtain ⟨cl882, Ar883, q884, S885, Ng886, H887, Gf888⟩ := id V881
          have hin889 := inb_of (j := (1 : Int32)) S885 (by decide)
          obtain ⟨T890, h891, X892, e893, W894, st895⟩ := stC X875 hx hZ e876 Ar883 (j := (1 : Int32)) hin889 (g := (mkF m 173 #[.val (.int av), .val (.int bv), .val (.int cv), .val (.int dv), .val (.int mo), .val (.int chp), .val (.int chq), .val (.int chr), .val (.int chs), .val (.int ((mo &&& (2147483647 : Int32)) % (5 : Int32))), .unset, .unset] [(.int chq), (.int (1 : Int32)), (.ref a855), (.ref a855), (.ref a838), (.ref a838)])) rfl rfl (hb hby at_173)
          have N896 := Fr.snoc X892 N879 G857
          have K897 : Keep h847 h891 [a855] := K880.wr W894 own_m0
          have V898 := Arv.set Ar883 q884 S885 Ng886 H887 Gf888 (v := (.int (nar .char chq))) (fits_nar_char _) W894 1 rfl (own_lt rfl)
          have k91 : own_J p e below T890 m 174 #[.val (.int av), .val (.int bv), .val (.int cv), .val (.int dv), .val (.int mo), .val (.int chp), .val (.int chq), .val (.int chr), .val (.int chs), .val (.int ((mo &&& (2147483647 : Int32)) % (5 : Int32))), .unset, .unset] [(.ref a855), (.ref a838), (.ref a838)] B_ := fun t_ hh => k90 t_ (st895 t_ hh)
          clear k90 st895 X875 e876 cl882 Ar883 q884 S885 Ng886 H887 Gf888 hin889 W894 K880 V881 N879
          have k92 : own_J p e below T890 m 178 #[.val (.int av), .val (.int bv), .val (.int cv), .val (.int dv), .val (.int mo), .val (.int chp), .val (.int chq), .val (.int chr), .val (.int chs), .val (.int ((mo &&& (2147483647 : Int32)) % (5 : Int32))), .unset, .unset] [(.int chr), (.int (2 : Int32)), (.ref a855), (.ref a855), (.ref a838), (.ref a838)] B_ := fun t_ hh => k91 t_ (by
            refine XS.dup X892.here hx rfl (hb hby at_174) rfl rfl ?_
            refine XS.iconst X892.here hx rfl (hb hby at_175) ?_
            refine XS.iload X892.here hx rfl (hb hby at_176) rfl ?_
            exact hh)
          clear k91
          obtain ⟨cl899, Ar900, q901, S902, Ng903, H904, Gf905⟩ := id V898
          have hin906 := inb_of (j := (2 : Int32)) S902 (by decide)
          obtain ⟨T907, h908, X909, e910, W911, st912⟩ := stC X892 hx hZ e893 Ar900 (j := (2 : Int32)) hin906 (g := (mkF m 178 #[.val (.int av), .val (.int bv), .val (.int cv), .val (.int dv), .val (.int mo), .val (.int chp), .val (.int chq), .val (.int chr), .val (.int chs), .val (.int ((mo &&& (2147483647 : Int32)) % (5 : Int32))), .unset, .unset] [(.int chr), (.int (2 : Int32)), (.ref a855), (.ref a855), (.ref a838), (.ref a838)])) rfl rfl (hb hby at_178)
          have N913 := Fr.snoc X909 N896 G857
          have K914 : Keep h847 h908 [a855] := K897.wr W911 own_m0
          have V915 : Arv Z h908 a855 kA848 .char (64 : Int32) [(.int (nar .char chp)), (.int (nar .char chq)), (.int (nar .char chr)), (.int (0 : Int32)), (.int (0 : Int32)), (.int (0 : Int32)), (.int (0 : Int32)), (.int (0 : Int32)), (.int (0 : Int32)), (.int (0 : Int32)), (.int (0 : Int32)), (.int (0 : Int32)), (.int (0 : Int32)), (.int (0 : Int32)), (.int (0 : Int32)), (.int (0 : Int32)), (.int (0 : Int32)), (.int (0 : Int32)), (.int (0 : Int32)), (.int (0 : Int32)), (.int (0 : Int32)), (.int (0 : Int32)), (.int (0 : Int32)), (.int (0 : Int32)), (.int (0 : Int32)), (.int (0 : Int32)), (.int (0 : Int32)), (.int (0 : Int32)), (.int (0 : Int32)), (.int (0 : Int32)), (.int (0 : Int32)), (.int (0 : Int32)), (.int (0 : Int32)), (.int (0 : Int32)), (.int (0 : Int32)), (.int (0 : Int32)), (.int (0 : Int32)), (.int (0 : Int32)), (.int (0 : Int32)), (.int (0 : Int32)), (.int (0 : Int32)), (.int (0 : Int32)), (.int (0 : Int32)), (.int (0 : Int32)), (.int (0 : Int32)), (.int (0 : Int32)), (.int (0 : Int32)), (.int (0 : Int32)), (.int (0 : Int32)), (.int (0 : Int32)), (.int (0 : Int32)), (.int (0 : Int32)), (.int (0 : Int32)), (.int (0 : Int32)), (.int (0 : Int32)), (.int (0 : Int32)), (.int (0 : Int32)), (.int (0 : Int32)), (.int (0 : Int32)), (.int (0 : Int32)), (.int (0 : Int32)), (.int (0 : Int32)), (.int (0 : Int32)), (.int (0 : Int32))] (.int (0 : Int32)) := Arv.set Ar900 q901 S902 Ng903 H904 Gf905 (fits_nar_char _) W911 2 rfl (own_lt rfl)
          have k93 : own_J p e below T907 m 179 #[.val (.int av), .val (.int bv), .val (.int cv), .val (.int dv), .val (.int mo), .val (.int chp), .val (.int chq), .val (.int chr), .val (.int chs), .val (.int ((mo &&& (2147483647 : Int32)) % (5 : Int32))), .unset, .unset] [(.ref a855), (.ref a838), (.ref a838)] B_ := fun t_ hh => k92 t_ (st912 t_ hh)
          clear k92 st912 X892 e893 cl899 Ar900 q901 S902 Ng903 H904 Gf905 hin906 W911 K897 V898 N896
          have k94 : own_J p e below T907 m 183 #[.val (.int av), .val (.int bv), .val (.int cv), .val (.int dv), .val (.int mo), .val (.int chp), .val (.int chq), .val (.int chr), .val (.int chs), .val (.int ((mo &&& (2147483647 : Int32)) % (5 : Int32))), .unset, .unset] [(.int chs), (.int (3 : Int32)), (.ref a855), (.ref a855), (.ref a838), (.ref a838)] B_ := fun t_ hh => k93 t_ (by
            refine XS.dup X909.here hx rfl (hb hby at_179) rfl rfl ?_
            refine XS.iconst X909.here hx rfl (hb hby at_180) ?_
            refine XS.iload X909.here hx rfl (hb hby at_181) rfl ?_
            exact hh)
          clear k93
          obtain ⟨cl916, Ar917, q918, S919, Ng920, H921, Gf922⟩ := id V915
          have hin923 := inb_of (j := (3 : Int32)) S919 (by decide)
          obtain ⟨T924, h925, X926, e927, W928, st929⟩ := stC X909 hx hZ e910 Ar917 (j := (3 : Int32)) hin923 (g := (mkF m 183 #[.val (.int av), .val (.int bv), .val (.int cv), .val (.int dv), .val (.int mo), .val (.int chp), .val (.int chq), .val (.int chr), .val (.int chs), .val (.int ((mo &&& (2147483647 : Int32)) % (5 : Int32))), .unset, .unset] [(.int chs), (.int (3 : Int32)), (.ref a855), (.ref a855), (.ref a838), (.ref a838)])) rfl rfl (hb hby at_183)
          have N930 := Fr.snoc X926 N913 G857
          have K931 : Keep h847 h925 [a855] := K914.wr W928 own_m0
          have V932 := Arv.set Ar917 q918 S919 Ng920 H921 Gf922 (v := (.int (nar .char chs))) (fits_nar_char _) W928 3 rfl (own_lt rfl)
          have k95 : own_J p e below T924 m 184 #[.val (.int av), .val (.int bv), .val (.int cv), .val (.int dv), .val (.int mo), .val (.int chp), .val (.int chq), .val (.int chr), .val (.int chs), .val (.int ((mo &&& (2147483647 : Int32)) % (5 : Int32))), .unset, .unset] [(.ref a855), (.ref a838), (.ref a838)] B_ := fun t_ hh => k94 t_ (st929 t_ hh)
          clear k94 st929 X909 e910 cl916 Ar917 q918 S919 Ng920 H921 Gf922 hin923 W928 K914 V915 N913
          have k96 : own_J p e below T924 m 188 #[.val (.int av), .val (.int bv), .val (.int cv), .val (.int dv), .val (.int mo), .val (.int chp), .val (.int chq), .val (.int chr), .val (.int chs), .val (.int ((mo &&& (2147483647 : Int32)) % (5 : Int32))), .unset, .unset] [(.int chp), (.int (4 : Int32)), (.ref a855), (.ref a855), (.ref a838), (.ref a838)] B_ := fun t_ hh => k95 t_ (by
            refine XS.dup X926.here hx rfl (hb hby at_184) rfl rfl ?_
            refine XS.iconst X926.here hx rfl (hb hby at_185) ?_
            refine XS.iload X926.here hx rfl (hb hby at_186) rfl ?_
            exact hh)
          clear k95
          obtain ⟨cl933, Ar934, q935, S936, Ng937, H938, Gf939⟩ := id V932
          have hin940 := inb_of (j := (4 : Int32)) S936 (by decide)
          obtain ⟨T941, h942, X943, e944, W945, st946⟩ := stC X926 hx hZ e927 Ar934 (j := (4 : Int32)) hin940 (g := (mkF m 188 #[.val (.int av), .val (.int bv), .val (.int cv), .val (.int dv), .val (.int mo), .val (.int chp), .val (.int chq), .val (.int chr), .val (.int chs), .val (.int ((mo &&& (2147483647 : Int32)) % (5 : Int32))), .unset, .unset] [(.int chp), (.int (4 : Int32)), (.ref a855), (.ref a855), (.ref a838), (.ref a838)])) rfl rfl (hb hby at_188)
          have N947 := Fr.snoc X943 N930 G857
          have K948 : Keep h847 h942 [a855] := K931.wr W945 own_m0
          have V949 := Arv.set Ar934 q935 S936 Ng937 H938 Gf939 (v := (.int (nar .char chp))) (fits_nar_char _) W945 4 rfl (own_lt rfl)
          have k97 : own_J p e below T941 m 189 #[.val (.int av), .val (.int bv), .val (.int cv), .val (.int dv), .val (.int mo), .val (.int chp), .val (.int chq), .val (.int chr), .val (.int chs), .val (.int ((mo &&& (2147483647 : Int32)) % (5 : Int32))), .unset, .unset] [(.ref a855), (.ref a838), (.ref a838)] B_ := fun t_ hh => k96 t_ (st946 t_ hh)
          clear k96 st946 X926 e927 cl933 Ar934 q935 S936 Ng937 H938 Gf939 hin940 W945 K931 V932 N930
          have k98 : own_J p e below T941 m 193 #[.val (.int av), .val (.int bv), .val (.int cv), .val (.int dv), .val (.int mo), .val (.int chp), .val (.int chq), .val (.int chr), .val (.int chs), .val (.int ((mo &&& (2147483647 : Int32)) % (5 : Int32))), .unset, .unset] [(.int chq), (.int (5 : Int32)), (.ref a855), (.ref a855), (.ref a838), (.ref a838)] B_ := fun t_ hh => k97 t_ (by
            refine XS.dup X943.here hx rfl (hb hby at_189) rfl rfl ?_
            refine XS.iconst X943.here hx rfl (hb hby at_190) ?_
            refine XS.iload X943.here hx rfl (hb hby at_191) rfl ?_
            exact hh)
          clear k97
          obtain ⟨cl950, Ar951, q952, S953, Ng954, H955, Gf956⟩ := id V949
          have hin957 := inb_of (j := (5 : Int32)) S953 (by decide)
          obtain ⟨T958, h959, X960, e961, W962, st963⟩ := stC X943 hx hZ e944 Ar951 (j := (5 : Int32)) hin957 (g := (mkF m 193 #[.val (.int av), .val (.int bv), .val (.int cv), .val (.int dv), .val (.int mo), .val (.int chp), .val (.int chq), .val (.int chr), .val (.int chs), .val (.int ((mo &&& (2147483647 : Int32)) % (5 : Int32))), .unset, .unset] [(.int chq), (.int (5 : Int32)), (.ref a855), (.ref a855), (.ref a838), (.ref a838)])) rfl rfl (hb hby at_193)
          have N964 := Fr.snoc X960 N947 G857
          have K965 : Keep h847 h959 [a855] := K948.wr W962 own_m0
          have V966 : Arv Z h959 a855 kA848 .char (64 : Int32) [(.int (nar .char chp)), (.int (nar .char chq)), (.int (nar .char chr)), (.int (nar .char chs)), (.int (nar .char chp)), (.int (nar .char chq)), (.int (0 : Int32)), (.int (0 : Int32)), (.int (0 : Int32)), (.int (0 : Int32)), (.int (0 : Int32)), (.int (0 : Int32)), (.int (0 : Int32)), (.int (0 : Int32)), (.int (0 : Int32)), (.int (0 : Int32)), (.int (0 : Int32)), (.int (0 : Int32)), (.int (0 : Int32)), (.int (0 : Int32)), (.int (0 : Int32)), (.int (0 : Int32)), (.int (0 : Int32)), (.int (0 : Int32)), (.int (0 : Int32)), (.int (0 : Int32)), (.int (0 : Int32)), (.int (0 : Int32)), (.int (0 : Int32)), (.int (0 : Int32)), (.int (0 : Int32)), (.int (0 : Int32)), (.int (0 : Int32)), (.int (0 : Int32)), (.int (0 : Int32)), (.int (0 : Int32)), (.int (0 : Int32)), (.int (0 : Int32)), (.int (0 : Int32)), (.int (0 : Int32)), (.int (0 : Int32)), (.int (0 : Int32)), (.int (0 : Int32)), (.int (0 : Int32)), (.int (0 : Int32)), (.int (0 : Int32)), (.int (0 : Int32)), (.int (0 : Int32)), (.int (0 : Int32)), (.int (0 : Int32)), (.int (0 : Int32)), (.int (0 : Int32)), (.int (0 : Int32)), (.int (0 : Int32)), (.int (0 : Int32)), (.int (0 : Int32)), (.int (0 : Int32)), (.int (0 : Int32)), (.int (0 : Int32)), (.int (0 : Int32)), (.int (0 : Int32)), (.int (0 : Int32)), (.int (0 : Int32)), (.int (0 : Int32))] (.int (0 : Int32)) := Arv.set Ar951 q952 S953 Ng954 H955 Gf956 (fits_nar_char _) W962 5 rfl (own_lt rfl)
          have k99 : own_J p e below T958 m 194 #[.val (.int av), .val (.int bv), .val (.int cv), .val (.int dv), .val (.int mo), .val (.int chp), .val (.int chq), .val (.int chr), .val (.int chs), .val (.int ((mo &&& (2147483647 : Int32)) % (5 : Int32))), .unset, .unset] [(.ref a855), (.ref a838), (.ref a838)] B_ := fun t_ hh => k98 t_ (st963 t_ hh)
          clear k98 st963 X943 e944 cl950 Ar951 q952 S953 Ng954 H955 Gf956 hin957 W962 K948 V949 N947
          have k100 : own_J p e below T958 m 199 #[.val (.int av), .val (.int bv), .val (.int cv), .val (.int dv), .val (.int mo), .val (.int chp), .val (.int chq), .val (.int chr), .val (.int chs), .val (.int ((mo &&& (2147483647 : Int32)) % (5 : Int32))), .unset, .unset] [(.int chr), (.int (6 : Int32)), (.ref a855), (.ref a855), (.ref a838), (.ref a838)] B_ := fun t_ hh => k99 t_ (by
            refine XS.dup X960.here hx rfl (hb hby at_194) rfl rfl ?_
            refine XS.bipush X960.here hx rfl (hb hby at_195) ?_
            refine XS.iload X960.here hx rfl (hb hby at_197) rfl ?_
            exact hh)
          clear k99
          obtain ⟨cl967, Ar968, q969, S970, Ng971, H972, Gf973⟩ := id V966
          have hin974 := inb_of (j := (6 : Int32)) S970 (by decide)
          obtain ⟨T975, h976, X977, e978, W979, st980⟩ := stC X960 hx hZ e961 Ar968 (j := (6 : Int32)) hin974 (g := (mkF m 199 #[.val (.int av), .val (.int bv), .val (.int cv), .val (.int dv), .val (.int mo), .val (.int chp), .val (.int chq), .val (.int chr), .val (.int chs), .val (.int ((mo &&& (2147483647 : Int32)) % (5 : Int32))), .unset, .unset] [(.int chr), (.int (6 : Int32)), (.ref a855), (.ref a855), (.ref a838), (.ref a838)])) rfl rfl (hb hby at_199)
          have N981 := Fr.snoc X977 N964 G857
          have K982 : Keep h847 h976 [a855] := K965.wr W979 own_m0
          have V983 := Arv.set Ar968 q969 S970 Ng971 H972 Gf973 (v := (.int (nar .char chr))) (fits_nar_char _) W979 6 rfl (own_lt rfl)
          have k101 : own_J p e below T975 m 200 #[.val (.int av), .val (.int bv), .val (.int cv), .val (.int dv), .val (.int mo), .val (.int chp), .val (.int chq), .val (.int chr), .val (.int chs), .val (.int ((mo &&& (2147483647 : Int32)) % (5 : Int32))), .unset, .unset] [(.ref a855), (.ref a838), (.ref a838)] B_ := fun t_ hh => k100 t_ (st980 t_ hh)
          clear k100 st980 X960 e961 cl967 Ar968 q969 S970 Ng971 H972 Gf973 hin974 W979 K965 V966 N964
          have k102 : own_J p e below T975 m 205 #[.val (.int av), .val (.int bv), .val (.int cv), .val (.int dv), .val (.int mo), .val (.int chp), .val (.int chq), .val (.int chr), .val (.int chs), .val (.int ((mo &&& (2147483647 : Int32)) % (5 : Int32))), .unset, .unset] [(.int chs), (.int (7 : Int32)), (.ref a855), (.ref a855), (.ref a838), (.ref a838)] B_ := fun t_ hh => k101 t_ (by
            refine XS.dup X977.here hx rfl (hb hby at_200) rfl rfl ?_
            refine XS.bipush X977.here hx rfl (hb hby at_201) ?_
            refine XS.iload X977.here hx rfl (hb hby at_203) rfl ?_
            exact hh)
          clear k101
          obtain ⟨cl984, Ar985, q986, S987, Ng988, H989, Gf990⟩ := id V983
          have hin991 := inb_of (j := (7 : Int32)) S987 (by decide)
          obtain ⟨T992, h993, X994, e995, W996, st997⟩ := stC X977 hx hZ e978 Ar985 (j := (7 : Int32)) hin991 (g := (mkF m 205 #[.val (.int av), .val (.int bv), .val (.int cv), .val (.int dv), .val (.int mo), .val (.int chp), .val (.int chq), .val (.int chr), .val (.int chs), .val (.int ((mo &&& (2147483647 : Int32)) % (5 : Int32))), .unset, .unset] [(.int chs), (.int (7 : Int32)), (.ref a855), (.ref a855), (.ref a838), (.ref a838)])) rfl rfl (hb hby at_205)
          have N998 := Fr.snoc X994 N981 G857
          have K999 : Keep h847 h993 [a855] := K982.wr W996 own_m0
          have V1000 := Arv.set Ar985 q986 S987 Ng988 H989 Gf990 (v := (.int (nar .char chs))) (fits_nar_char _) W996 7 rfl (own_lt rfl)
          have k103 : own_J p e below T992 m 206 #[.val (.int av), .val (.int bv), .val (.int cv), .val (.int dv), .val (.int mo), .val (.int chp), .val (.int chq), .val (.int chr), .val (.int chs), .val (.int ((mo &&& (2147483647 : Int32)) % (5 : Int32))), .unset, .unset] [(.ref a855), (.ref a838), (.ref a838)] B_ := fun t_ hh => k102 t_ (st997 t_ hh)
          clear k102 st997 X977 e978 cl984 Ar985 q986 S987 Ng988 H989 Gf990 hin991 W996 K982 V983 N981
          have k104 : own_J p e below T992 m 211 #[.val (.int av), .val (.int bv), .val (.int cv), .val (.int dv), .val (.int mo), .val (.int chp), .val (.int chq), .val (.int chr), .val (.int chs), .val (.int ((mo &&& (2147483647 : Int32)) % (5 : Int32))), .unset, .unset] [(.int chp), (.int (8 : Int32)), (.ref a855), (.ref a855), (.ref a838), (.ref a838)] B_ := fun t_ hh => k103 t_ (by
            refine XS.dup X994.here hx rfl (hb hby at_206) rfl rfl ?_
            refine XS.bipush X994.here hx rfl (hb hby at_207) ?_
            refine XS.iload X994.here hx rfl (hb hby at_209) rfl ?_
            exact hh)
          clear k103
          obtain ⟨cl1001, Ar1002, q1003, S1004, Ng1005, H1006, Gf1007⟩ := id V1000
          have hin1008 := inb_of (j := (8 : Int32)) S1004 (by decide)
          obtain ⟨T1009, h1010, X1011, e1012, W1013, st1014⟩ := stC X994 hx hZ e995 Ar1002 (j := (8 : Int32)) hin1008 (g := (mkF m 211 #[.val (.int av), .val (.int bv), .val (.int cv), .val (.int dv), .val (.int mo), .val (.int chp), .val (.int chq), .val (.int chr), .val (.int chs), .val (.int ((mo &&& (2147483647 : Int32)) % (5 : Int32))), .unset, .unset] [(.int chp), (.int (8 : Int32)), (.ref a855), (.ref a855), (.ref a838), (.ref a838)])) rfl rfl (hb hby at_211)
          have N1015 := Fr.snoc X1011 N998 G857
          have K1016 : Keep h847 h1010 [a855] := K999.wr W1013 own_m0
          have V1017 : Arv Z h1010 a855 kA848 .char (64 : Int32) [(.int (nar .char chp)), (.int (nar .char chq)), (.int (nar .char chr)), (.int (nar .char chs)), (.int (nar .char chp)), (.int (nar .char chq)), (.int (nar .char chr)), (.int (nar .char chs)), (.int (nar .char chp)), (.int (0 : Int32)), (.int (0 : Int32)), (.int (0 : Int32)), (.int (0 : Int32)), (.int (0 : Int32)), (.int (0 : Int32)), (.int (0 : Int32)), (.int (0 : Int32)), (.int (0 : Int32)), (.int (0 : Int32)), (.int (0 : Int32)), (.int (0 : Int32)), (.int (0 : Int32)), (.int (0 : Int32)), (.int (0 : Int32)), (.int (0 : Int32)), (.int (0 : Int32)), (.int (0 : Int32)), (.int (0 : Int32)), (.int (0 : Int32)), (.int (0 : Int32)), (.int (0 : Int32)), (.int (0 : Int32)), (.int (0 : Int32)), (.int (0 : Int32)), (.int (0 : Int32)), (.int (0 : Int32)), (.int (0 : Int32)), (.int (0 : Int32)), (.int (0 : Int32)), (.int (0 : Int32)), (.int (0 : Int32)), (.int (0 : Int32)), (.int (0 : Int32)), (.int (0 : Int32)), (.int (0 : Int32)), (.int (0 : Int32)), (.int (0 : Int32)), (.int (0 : Int32)), (.int (0 : Int32)), (.int (0 : Int32)), (.int (0 : Int32)), (.int (0 : Int32)), (.int (0 : Int32)), (.int (0 : Int32)), (.int (0 : Int32)), (.int (0 : Int32)), (.int (0 : Int32)), (.int (0 : Int32)), (.int (0 : Int32)), (.int (0 : Int32)), (.int (0 : Int32)), (.int (0 : Int32)), (.int (0 : Int32)), (.int (0 : Int32))] (.int (0 : Int32)) := Arv.set Ar1002 q1003 S1004 Ng1005 H1006 Gf1007 (fits_nar_char _) W1013 8 rfl (own_lt rfl)
          have k105 : own_J p e below T1009 m 212 #[.val (.int av), .val (.int bv), .val (.int cv), .val (.int dv), .val (.int mo), .val (.int chp), .val (.int chq), .val (.int chr), .val (.int chs), .val (.int ((mo &&& (2147483647 : Int32)) % (5 : Int32))), .unset, .unset] [(.ref a855), (.ref a838), (.ref a838)] B_ := fun t_ hh => k104 t_ (st1014 t_ hh)
          clear k104 st1014 X994 e995 cl1001 Ar1002 q1003 S1004 Ng1005 H1006 Gf1007 hin1008 W1013 K999 V1000 N998
          have k106 : own_J p e below T1009 m 217 #[.val (.int av), .val (.int bv), .val (.int cv), .val (.int dv), .val (.int mo), .val (.int chp), .val (.int chq), .val (.int chr), .val (.int chs), .val (.int ((mo &&& (2147483647 : Int32)) % (5 : Int32))), .unset, .unset] [(.int chq), (.int (9 : Int32)), (.ref a855), (.ref a855), (.ref a838), (.ref a838)] B_ := fun t_ hh => k105 t_ (by
            refine XS.dup X1011.here hx rfl (hb hby at_212) rfl rfl ?_
            refine XS.bipush X1011.here hx rfl (hb hby at_213) ?_
            refine XS.iload X1011.here hx rfl (hb hby at_215) rfl ?_
            exact hh)
          clear k105
          obtain ⟨cl1018, Ar1019, q1020, S1021, Ng1022, H1023, Gf1024⟩ := id V1017
          have hin1025 := inb_of (j := (9 : Int32)) S1021 (by decide)
          obtain ⟨T1026, h1027, X1028, e1029, W1030, st1031⟩ := stC X1011 hx hZ e1012 Ar1019 (j := (9 : Int32)) hin1025 (g := (mkF m 217 #[.val (.int av), .val (.int bv), .val (.int cv), .val (.int dv), .val (.int mo), .val (.int chp), .val (.int chq), .val (.int chr), .val (.int chs), .val (.int ((mo &&& (2147483647 : Int32)) % (5 : Int32))), .unset, .unset] [(.int chq), (.int (9 : Int32)), (.ref a855), (.ref a855), (.ref a838), (.ref a838)])) rfl rfl (hb hby at_217)
          have N1032 := Fr.snoc X1028 N1015 G857
          have K1033 : Keep h847 h1027 [a855] := K1016.wr W1030 own_m0
          have V1034 := Arv.set Ar1019 q1020 S1021 Ng1022 H1023 Gf1024 (v := (.int (nar .char chq))) (fits_nar_char _) W1030 9 rfl (own_lt rfl)
          have k107 : own_J p e below T1026 m 218 #[.val (.int av), .val (.int bv), .val (.int cv), .val (.int dv), .val (.int mo), .val (.int chp), .val (.int chq), .val (.int chr), .val (.int chs), .val (.int ((mo &&& (2147483647 : Int32)) % (5 : Int32))), .unset, .unset] [(.ref a855), (.ref a838), (.ref a838)] B_ := fun t_ hh => k106 t_ (st1031 t_ hh)
          clear k106 st1031 X1011 e1012 cl1018 Ar1019 q1020 S1021 Ng1022 H1023 Gf1024 hin1025 W1030 K1016 V1017 N1015
          have k108 : own_J p e below T1026 m 223 #[.val (.int av), .val (.int bv), .val (.int cv), .val (.int dv), .val (.int mo), .val (.int chp), .val (.int chq), .val (.int chr), .val (.int chs), .val (.int ((mo &&& (2147483647 : Int32)) % (5 : Int32))), .unset, .unset] [(.int chr), (.int (10 : Int32)), (.ref a855), (.ref a855), (.ref a838), (.ref a838)] B_ := fun t_ hh => k107 t_ (by
            refine XS.dup X1028.here hx rfl (hb hby at_218) rfl rfl ?_
            refine XS.bipush X1028.here hx rfl (hb hby at_219) ?_
            refine XS.iload X1028.here hx rfl (hb hby at_221) rfl ?_
            exact hh)
          clear k107
          obtain ⟨cl1035, Ar1036, q1037, S1038, Ng1039, H1040, Gf1041⟩ := id V1034
          have hin1042 := inb_of (j := (10 : Int32)) S1038 (by decide)
          obtain ⟨T1043, h1044, X1045, e1046, W1047, st1048⟩ := stC X1028 hx hZ e1029 Ar1036 (j := (10 : Int32)) hin1042 (g := (mkF m 223 #[.val (.int av), .val (.int bv), .val (.int cv), .val (.int dv), .val (.int mo), .val (.int chp), .val (.int chq), .val (.int chr), .val (.int chs), .val (.int ((mo &&& (2147483647 : Int32)) % (5 : Int32))), .unset, .unset] [(.int chr), (.int (10 : Int32)), (.ref a855), (.ref a855), (.ref a838), (.ref a838)])) rfl rfl (hb hby at_223)
          have N1049 := Fr.snoc X1045 N1032 G857
          have K1050 : Keep h847 h1044 [a855] := K1033.wr W1047 own_m0
          have V1051 := Arv.set Ar1036 q1037 S1038 Ng1039 H1040 Gf1041 (v := (.int (nar .char chr))) (fits_nar_char _) W1047 10 rfl (own_lt rfl)
          have k109 : own_J p e below T1043 m 224 #[.val (.int av), .val (.int bv), .val (.int cv), .val (.int dv), .val (.int mo), .val (.int chp), .val (.int chq), .val (.int chr), .val (.int chs), .val (.int ((mo &&& (2147483647 : Int32)) % (5 : Int32))), .unset, .unset] [(.ref a855), (.ref a838), (.ref a838)] B_ := fun t_ hh => k108 t_ (st1048 t_ hh)
          clear k108 st1048 X1028 e1029 cl1035 Ar1036 q1037 S1038 Ng1039 H1040 Gf1041 hin1042 W1047 K1033 V1034 N1032
          have k110 : own_J p e below T1043 m 229 #[.val (.int av), .val (.int bv), .val (.int cv), .val (.int dv), .val (.int mo), .val (.int chp), .val (.int chq), .val (.int chr), .val (.int chs), .val (.int ((mo &&& (2147483647 : Int32)) % (5 : Int32))), .unset, .unset] [(.int chs), (.int (11 : Int32)), (.ref a855), (.ref a855), (.ref a838), (.ref a838)] B_ := fun t_ hh => k109 t_ (by
            refine XS.dup X1045.here hx rfl (hb hby at_224) rfl rfl ?_
            refine XS.bipush X1045.here hx rfl (hb hby at_225) ?_
            refine XS.iload X1045.here hx rfl (hb hby at_227) rfl ?_
            exact hh)
          clear k109
          obtain ⟨cl1052, Ar1053, q1054, S1055, Ng1056, H1057, Gf1058⟩ := id V1051
          have hin1059 := inb_of (j := (11 : Int32)) S1055 (by decide)
          obtain ⟨T1060, h1061, X1062, e1063, W1064, st1065⟩ := stC X1045 hx hZ e1046 Ar1053 (j := (11 : Int32)) hin1059 (g := (mkF m 229 #[.val (.int av), .val (.int bv), .val (.int cv), .val (.int dv), .val (.int mo), .val (.int chp), .val (.int chq), .val (.int chr), .val (.int chs), .val (.int ((mo &&& (2147483647 : Int32)) % (5 : Int32))), .unset, .unset] [(.int chs), (.int (11 : Int32)), (.ref a855), (.ref a855), (.ref a838), (.ref a838)])) rfl rfl (hb hby at_229)
          have N1066 := Fr.snoc X1062 N1049 G857
          have K1067 : Keep h847 h1061 [a855] := K1050.wr W1064 own_m0
          have V1068 : Arv Z h1061 a855 kA848 .char (64 : Int32) [(.int (nar .char chp)), (.int (nar .char chq)), (.int (nar .char chr)), (.int (nar .char chs)), (.int (nar .char chp)), (.int (nar .char chq)), (.int (nar .char chr)), (.int (nar .char chs)), (.int (nar .char chp)), (.int (nar .char chq)), (.int (nar .char chr)), (.int (nar .char chs)), (.int (0 : Int32)), (.int (0 : Int32)), (.int (0 : Int32)), (.int (0 : Int32)), (.int (0 : Int32)), (.int (0 : Int32)), (.int (0 : Int32)), (.int (0 : Int32)), (.int (0 : Int32)), (.int (0 : Int32)), (.int (0 : Int32)), (.int (0 : Int32)), (.int (0 : Int32)), (.int (0 : Int32)), (.int (0 : Int32)), (.int (0 : Int32)), (.int (0 : Int32)), (.int (0 : Int32)), (.int (0 : Int32)), (.int (0 : Int32)), (.int (0 : Int32)), (.int (0 : Int32)), (.int (0 : Int32)), (.int (0 : Int32)), (.int (0 : Int32)), (.int (0 : Int32)), (.int (0 : Int32)), (.int (0 : Int32)), (.int (0 : Int32)), (.int (0 : Int32)), (.int (0 : Int32)), (.int (0 : Int32)), (.int (0 : Int32)), (.int (0 : Int32)), (.int (0 : Int32)), (.int (0 : Int32)), (.int (0 : Int32)), (.int (0 : Int32)), (.int (0 : Int32)), (.int (0 : Int32)), (.int (0 : Int32)), (.int (0 : Int32)), (.int (0 : Int32)), (.int (0 : Int32)), (.int (0 : Int32)), (.int (0 : Int32)), (.int (0 : Int32)), (.int (0 : Int32)), (.int (0 : Int32)), (.int (0 : Int32)), (.int (0 : Int32)), (.int (0 : Int32))] (.int (0 : Int32)) := Arv.set Ar1053 q1054 S1055 Ng1056 H1057 Gf1058 (fits_nar_char _) W1064 11 rfl (own_lt rfl)
          have k111 : own_J p e below T1060 m 230 #[.val (.int av), .val (.int bv), .val (.int cv), .val (.int dv), .val (.int mo), .val (.int chp), .val (.int chq), .val (.int chr), .val (.int chs), .val (.int ((mo &&& (2147483647 : Int32)) % (5 : Int32))), .unset, .unset] [(.ref a855), (.ref a838), (.ref a838)] B_ := fun t_ hh => k110 t_ (st1065 t_ hh)
          clear k110 st1065 X1045 e1046 cl1052 Ar1053 q1054 S1055 Ng1056 H1057 Gf1058 hin1059 W1064 K1050 V1051 N1049
          have k112 : own_J p e below T1060 m 235 #[.val (.int av), .val (.int bv), .val (.int cv), .val (.int dv), .val (.int mo), .val (.int chp), .val (.int chq), .val (.int chr), .val (.int chs), .val (.int ((mo &&& (2147483647 : Int32)) % (5 : Int32))), .unset, .unset] [(.int chp), (.int (12 : Int32)), (.ref a855), (.ref a855), (.ref a838), (.ref a838)] B_ := fun t_ hh => k111 t_ (by
            refine XS.dup X1062.here hx rfl (hb hby at_230) rfl rfl ?_
            refine XS.bipush X1062.here hx rfl (hb hby at_231) ?_
            refine XS.iload X1062.here hx rfl (hb hby at_233) rfl ?_
            exact hh)
          clear k111
          obtain ⟨cl1069, Ar1070, q1071, S1072, Ng1073, H1074, Gf1075⟩ := id V1068
          have hin1076 := inb_of (j := (12 : Int32)) S1072 (by decide)
          obtain ⟨T1077, h1078, X1079, e1080, W1081, st1082⟩ := stC X1062 hx hZ e1063 Ar1070 (j := (12 : Int32)) hin1076 (g := (mkF m 235 #[.val (.int av), .val (.int bv), .val (.int cv), .val (.int dv), .val (.int mo), .val (.int chp), .val (.int chq), .val (.int chr), .val (.int chs), .val (.int ((mo &&& (2147483647 : Int32)) % (5 : Int32))), .unset, .unset] [(.int chp), (.int (12 : Int32)), (.ref a855), (.ref a855), (.ref a838), (.ref a838)])) rfl rfl (hb hby at_235)
          have N1083 := Fr.snoc X1079 N1066 G857
          have K1084 : Keep h847 h1078 [a855] := K1067.wr W1081 own_m0
          have V1085 := Arv.set Ar1070 q1071 S1072 Ng1073 H1074 Gf1075 (v := (.int (nar .char chp))) (fits_nar_char _) W1081 12 rfl (own_lt rfl)
          have k113 : own_J p e below T1077 m 236 #[.val (.int av), .val (.int bv), .val (.int cv), .val (.int dv), .val (.int mo), .val (.int chp), .val (.int chq), .val (.int chr), .val (.int chs), .val (.int ((mo &&& (2147483647 : Int32)) % (5 : Int32))), .unset, .unset] [(.ref a855), (.ref a838), (.ref a838)] B_ := fun t_ hh => k112 t_ (st1082 t_ hh)
          clear k112 st1082 X1062 e1063 cl1069 Ar1070 q1071 S1072 Ng1073 H1074 Gf1075 hin1076 W1081 K1067 V1068 N1066
          have k114 : own_J p e below T1077 m 241 #[.val (.int av), .val (.int bv), .val (.int cv), .val (.int dv), .val (.int mo), .val (.int chp), .val (.int chq), .val (.int chr), .val (.int chs), .val (.int ((mo &&& (2147483647 : Int32)) % (5 : Int32))), .unset, .unset] [(.int chq), (.int (13 : Int32)), (.ref a855), (.ref a855), (.ref a838), (.ref a838)] B_ := fun t_ hh => k113 t_ (by
            refine XS.dup X1079.here hx rfl (hb hby at_236) rfl rfl ?_
            refine XS.bipush X1079.here hx rfl (hb hby at_237) ?_
            refine XS.iload X1079.here hx rfl (hb hby at_239) rfl ?_
            exact hh)
          clear k113
          obtain ⟨cl1086, Ar1087, q1088, S1089, Ng1090, H1091, Gf1092⟩ := id V1085
          have hin1093 := inb_of (j := (13 : Int32)) S1089 (by decide)
          obtain ⟨T1094, h1095, X1096, e1097, W1098, st1099⟩ := stC X1079 hx hZ e1080 Ar1087 (j := (13 : Int32)) hin1093 (g := (mkF m 241 #[.val (.int av), .val (.int bv), .val (.int cv), .val (.int dv), .val (.int mo), .val (.int chp), .val (.int chq), .val (.int chr), .val (.int chs), .val (.int ((mo &&& (2147483647 : Int32)) % (5 : Int32))), .unset, .unset] [(.int chq), (.int (13 : Int32)), (.ref a855), (.ref a855), (.ref a838), (.ref a838)])) rfl rfl (hb hby at_241)
          have N1100 := Fr.snoc X1096 N1083 G857
          have K1101 : Keep h847 h1095 [a855] := K1084.wr W1098 own_m0
          have V1102 := Arv.set Ar1087 q1088 S1089 Ng1090 H1091 Gf1092 (v := (.int (nar .char chq))) (fits_nar_char _) W1098 13 rfl (own_lt rfl)
          have k115 : own_J p e below T1094 m 242 #[.val (.int av), .val (.int bv), .val (.int cv), .val (.int dv), .val (.int mo), .val (.int chp), .val (.int chq), .val (.int chr), .val (.int chs), .val (.int ((mo &&& (2147483647 : Int32)) % (5 : Int32))), .unset, .unset] [(.ref a855), (.ref a838), (.ref a838)] B_ := fun t_ hh => k114 t_ (st1099 t_ hh)
          clear k114 st1099 X1079 e1080 cl1086 Ar1087 q1088 S1089 Ng1090 H1091 Gf1092 hin1093 W1098 K1084 V1085 N1083
          have k116 : own_J p e below T1094 m 247 #[.val (.int av), .val (.int bv), .val (.int cv), .val (.int dv), .val (.int mo), .val (.int chp), .val (.int chq), .val (.int chr), .val (.int chs), .val (.int ((mo &&& (2147483647 : Int32)) % (5 : Int32))), .unset, .unset] [(.int chr), (.int (14 : Int32)), (.ref a855), (.ref a855), (.ref a838), (.ref a838)] B_ := fun t_ hh => k115 t_ (by
            refine XS.dup X1096.here hx rfl (hb hby at_242) rfl rfl ?_
            refine XS.bipush X1096.here hx rfl (hb hby at_243) ?_
            refine XS.iload X1096.here hx rfl (hb hby at_245) rfl ?_
            exact hh)
          clear k115
          obtain ⟨cl1103, Ar1104, q1105, S1106, Ng1107, H1108, Gf1109⟩ := id V1102
          have hin1110 := inb_of (j := (14 : Int32)) S1106 (by decide)
          obtain ⟨T1111, h1112, X1113, e1114, W1115, st1116⟩ := stC X1096 hx hZ e1097 Ar1104 (j := (14 : Int32)) hin1110 (g := (mkF m 247 #[.val (.int av), .val (.int bv), .val (.int cv), .val (.int dv), .val (.int mo), .val (.int chp), .val (.int chq), .val (.int chr), .val (.int chs), .val (.int ((mo &&& (2147483647 : Int32)) % (5 : Int32))), .unset, .unset] [(.int chr), (.int (14 : Int32)), (.ref a855), (.ref a855), (.ref a838), (.ref a838)])) rfl rfl (hb hby at_247)
          have N1117 := Fr.snoc X1113 N1100 G857
          have K1118 : Keep h847 h1112 [a855] := K1101.wr W1115 own_m0
          have V1119 : Arv Z h1112 a855 kA848 .char (64 : Int32) [(.int (nar .char chp)), (.int (nar .char chq)), (.int (nar .char chr)), (.int (nar .char chs)), (.int (nar .char chp)), (.int (nar .char chq)), (.int (nar .char chr)), (.int (nar .char chs)), (.int (nar .char chp)), (.int (nar .char chq)), (.int (nar .char chr)), (.int (nar .char chs)), (.int (nar .char chp)), (.int (nar .char chq)), (.int (nar .char chr)), (.int (0 : Int32)), (.int (0 : Int32)), (.int (0 : Int32)), (.int (0 : Int32)), (.int (0 : Int32)), (.int (0 : Int32)), (.int (0 : Int32)), (.int (0 : Int32)), (.int (0 : Int32)), (.int (0 : Int32)), (.int (0 : Int32)), (.int (0 : Int32)), (.int (0 : Int32)), (.int (0 : Int32)), (.int (0 : Int32)), (.int (0 : Int32)), (.int (0 : Int32)), (.int (0 : Int32)), (.int (0 : Int32)), (.int (0 : Int32)), (.int (0 : Int32)), (.int (0 : Int32)), (.int (0 : Int32)), (.int (0 : Int32)), (.int (0 : Int32)), (.int (0 : Int32)), (.int (0 : Int32)), (.int (0 : Int32)), (.int (0 : Int32)), (.int (0 : Int32)), (.int (0 : Int32)), (.int (0 : Int32)), (.int (0 : Int32)), (.int (0 : Int32)), (.int (0 : Int32)), (.int (0 : Int32)), (.int (0 : Int32)), (.int (0 : Int32)), (.int (0 : Int32)), (.int (0 : Int32)), (.int (0 : Int32)), (.int (0 : Int32)), (.int (0 : Int32)), (.int (0 : Int32)), (.int (0 : Int32)), (.int (0 : Int32)), (.int (0 : Int32)), (.int (0 : Int32)), (.int (0 : Int32))] (.int (0 : Int32)) := Arv.set Ar1104 q1105 S1106 Ng1107 H1108 Gf1109 (fits_nar_char _) W1115 14 rfl (own_lt rfl)
          have k117 : own_J p e below T1111 m 248 #[.val (.int av), .val (.int bv), .val (.int cv), .val (.int dv), .val (.int mo), .val (.int chp), .val (.int chq), .val (.int chr), .val (.int chs), .val (.int ((mo &&& (2147483647 : Int32)) % (5 : Int32))), .unset, .unset] [(.ref a855), (.ref a838), (.ref a838)] B_ := fun t_ hh => k116 t_ (st1116 t_ hh)
          clear k116 st1116 X1096 e1097 cl1103 Ar1104 q1105 S1106 Ng1107 H1108 Gf1109 hin1110 W1115 K1101 V1102 N1100
          have k118 : own_J p e below T1111 m 253 #[.val (.int av), .val (.int bv), .val (.int cv), .val (.int dv), .val (.int mo), .val (.int chp), .val (.int chq), .val (.int chr), .val (.int chs), .val (.int ((mo &&& (2147483647 : Int32)) % (5 : Int32))), .unset, .unset] [(.int chs), (.int (15 : Int32)), (.ref a855), (.ref a855), (.ref a838), (.ref a838)] B_ := fun t_ hh => k117 t_ (by
            refine XS.dup X1113.here hx rfl (hb hby at_248) rfl rfl ?_
            refine XS.bipush X1113.here hx rfl (hb hby at_249) ?_
            refine XS.iload X1113.here hx rfl (hb hby at_251) rfl ?_
            exact hh)
          clear k117
          obtain ⟨cl1120, Ar1121, q1122, S1123, Ng1124, H1125, Gf1126⟩ := id V1119
          have hin1127 := inb_of (j := (15 : Int32)) S1123 (by decide)
          obtain ⟨T1128, h1129, X1130, e1131, W1132, st1133⟩ := stC X1113 hx hZ e1114 Ar1121 (j := (15 : Int32)) hin1127 (g := (mkF m 253 #[.val (.int av), .val (.int bv), .val (.int cv), .val (.int dv), .val (.int mo), .val (.int chp), .val (.int chq), .val (.int chr), .val (.int chs), .val (.int ((mo &&& (2147483647 : Int32)) % (5 : Int32))), .unset, .unset] [(.int chs), (.int (15 : Int32)), (.ref a855), (.ref a855), (.ref a838), (.ref a838)])) rfl rfl (hb hby at_253)
          have N1134 := Fr.snoc X1130 N1117 G857
          have K1135 : Keep h847 h1129 [a855] := K1118.wr W1132 own_m0
          have V1136 := Arv.set Ar1121 q1122 S1123 Ng1124 H1125 Gf1126 (v := (.int (nar .char chs))) (fits_nar_char _) W1132 15 rfl (own_lt rfl)
          have k119 : own_J p e below T1128 m 254 #[.val (.int av), .val (.int bv), .val (.int cv), .val (.int dv), .val (.int mo), .val (.int chp), .val (.int chq), .val (.int chr), .val (.int chs), .val (.int ((mo &&& (2147483647 : Int32)) % (5 : Int32))), .unset, .unset] [(.ref a855), (.ref a838), (.ref a838)] B_ := fun t_ hh => k118 t_ (st1133 t_ hh)
          clear k118 st1133 X1113 e1114 cl1120 Ar1121 q1122 S1123 Ng1124 H1125 Gf1126 hin1127 W1132 K1118 V1119 N1117
          have k120 : own_J p e below T1128 m 259 #[.val (.int av), .val (.int bv), .val (.int cv), .val (.int dv), .val (.int mo), .val (.int chp), .val (.int chq), .val (.int chr), .val (.int chs), .val (.int ((mo &&& (2147483647 : Int32)) % (5 : Int32))), .unset, .unset] [(.int chp), (.int (16 : Int32)), (.ref a855), (.ref a855), (.ref a838), (.ref a838)] B_ := fun t_ hh => k119 t_ (by
            refine XS.dup X1130.here hx rfl (hb hby at_254) rfl rfl ?_
            refine XS.bipush X1130.here hx rfl (hb hby at_255) ?_
            refine XS.iload X1130.here hx rfl (hb hby at_257) rfl ?_
            exact hh)
          clear k119
          obtain ⟨cl1137, Ar1138, q1139, S1140, Ng1141, H1142, Gf1143⟩ := id V1136
          have hin1144 := inb_of (j := (16 : Int32)) S1140 (by decide)
          obtain ⟨T1145, h1146, X1147, e1148, W1149, st1150⟩ := stC X1130 hx hZ e1131 Ar1138 (j := (16 : Int32)) hin1144 (g := (mkF m 259 #[.val (.int av), .val (.int bv), .val (.int cv), .val (.int dv), .val (.int mo), .val (.int chp), .val (.int chq), .val (.int chr), .val (.int chs), .val (.int ((mo &&& (2147483647 : Int32)) % (5 : Int32))), .unset, .unset] [(.int chp), (.int (16 : Int32)), (.ref a855), (.ref a855), (.ref a838), (.ref a838)])) rfl rfl (hb hby at_259)
          have N1151 := Fr.snoc X1147 N1134 G857
          have K1152 : Keep h847 h1146 [a855] := K1135.wr W1149 own_m0
          have V1153 := Arv.set Ar1138 q1139 S1140 Ng1141 H1142 Gf1143 (v := (.int (nar .char chp))) (fits_nar_char _) W1149 16 rfl (own_lt rfl)
          have k121 : own_J p e below T1145 m 260 #[.val (.int av), .val (.int bv), .val (.int cv), .val (.int dv), .val (.int mo), .val (.int chp), .val (.int chq), .val (.int chr), .val (.int chs), .val (.int ((mo &&& (2147483647 : Int32)) % (5 : Int32))), .unset, .unset] [(.ref a855), (.ref a838), (.ref a838)] B_ := fun t_ hh => k120 t_ (st1150 t_ hh)
          clear k120 st1150 X1130 e1131 cl1137 Ar1138 q1139 S1140 Ng1141 H1142 Gf1143 hin1144 W1149 K1135 V1136 N1134
          have k122 : own_J p e below T1145 m 265 #[.val (.int av), .val (.int bv), .val (.int cv), .val (.int dv), .val (.int mo), .val (.int chp), .val (.int chq), .val (.int chr), .val (.int chs), .val (.int ((mo &&& (2147483647 : Int32)) % (5 : Int32))), .unset, .unset] [(.int chq), (.int (17 : Int32)), (.ref a855), (.ref a855), (.ref a838), (.ref a838)] B_ := fun t_ hh => k121 t_ (by
            refine XS.dup X1147.here hx rfl (hb hby at_260) rfl rfl ?_
            refine XS.bipush X1147.here hx rfl (hb hby at_261) ?_
            refine XS.iload X1147.here hx rfl (hb hby at_263) rfl ?_
            exact hh)
          clear k121
          obtain ⟨cl1154, Ar1155, q1156, S1157, Ng1158, H1159, Gf1160⟩ := id V1153
          have hin1161 := inb_of (j := (17 : Int32)) S1157 (by decide)
          obtain ⟨T1162, h1163, X1164, e1165, W1166, st1167⟩ := stC X1147 hx hZ e1148 Ar1155 (j := (17 : Int32)) hin1161 (g := (mkF m 265 #[.val (.int av), .val (.int bv), .val (.int cv), .val (.int dv), .val (.int mo), .val (.int chp), .val (.int chq), .val (.int chr), .val (.int chs), .val (.int ((mo &&& (2147483647 : Int32)) % (5 : Int32))), .unset, .unset] [(.int chq), (.int (17 : Int32)), (.ref a855), (.ref a855), (.ref a838), (.ref a838)])) rfl rfl (hb hby at_265)
          have N1168 := Fr.snoc X1164 N1151 G857
          have K1169 : Keep h847 h1163 [a855] := K1152.wr W1166 own_m0
          have V1170 : Arv Z h1163 a855 kA848 .char (64 : Int32) [(.int (nar .char chp)), (.int (nar .char chq)), (.int (nar .char chr)), (.int (nar .char chs)), (.int (nar .char chp)), (.int (nar .char chq)), (.int (nar .char chr)), (.int (nar .char chs)), (.int (nar .char chp)), (.int (nar .char chq)), (.int (nar .char chr)), (.int (nar .char chs)), (.int (nar .char chp)), (.int (nar .char chq)), (.int (nar .char chr)), (.int (nar .char chs)), (.int (nar .char chp)), (.int (nar .char chq)), (.int (0 : Int32)), (.int (0 : Int32)), (.int (0 : Int32)), (.int (0 : Int32)), (.int (0 : Int32)), (.int (0 : Int32)), (.int (0 : Int32)), (.int (0 : Int32)), (.int (0 : Int32)), (.int (0 : Int32)), (.int (0 : Int32)), (.int (0 : Int32)), (.int (0 : Int32)), (.int (0 : Int32)), (.int (0 : Int32)), (.int (0 : Int32)), (.int (0 : Int32)), (.int (0 : Int32)), (.int (0 : Int32)), (.int (0 : Int32)), (.int (0 : Int32)), (.int (0 : Int32)), (.int (0 : Int32)), (.int (0 : Int32)), (.int (0 : Int32)), (.int (0 : Int32)), (.int (0 : Int32)), (.int (0 : Int32)), (.int (0 : Int32)), (.int (0 : Int32)), (.int (0 : Int32)), (.int (0 : Int32)), (.int (0 : Int32)), (.int (0 : Int32)), (.int (0 : Int32)), (.int (0 : Int32)), (.int (0 : Int32)), (.int (0 : Int32)), (.int (0 : Int32)), (.int (0 : Int32)), (.int (0 : Int32)), (.int (0 : Int32)), (.int (0 : Int32)), (.int (0 : Int32)), (.int (0 : Int32)), (.int (0 : Int32))] (.int (0 : Int32)) := Arv.set Ar1155 q1156 S1157 Ng1158 H1159 Gf1160 (fits_nar_char _) W1166 17 rfl (own_lt rfl)
          have k123 : own_J p e below T1162 m 266 #[.val (.int av), .val (.int bv), .val (.int cv), .val (.int dv), .val (.int mo), .val (.int chp), .val (.int chq), .val (.int chr), .val (.int chs), .val (.int ((mo &&& (2147483647 : Int32)) % (5 : Int32))), .unset, .unset] [(.ref a855), (.ref a838), (.ref a838)] B_ := fun t_ hh => k122 t_ (st1167 t_ hh)
          clear k122 st1167 X1147 e1148 cl1154 Ar1155 q1156 S1157 Ng1158 H1159 Gf1160 hin1161 W1166 K1152 V1153 N1151
          have k124 : own_J p e below T1162 m 271 #[.val (.int av), .val (.int bv), .val (.int cv), .val (.int dv), .val (.int mo), .val (.int chp), .val (.int chq), .val (.int chr), .val (.int chs), .val (.int ((mo &&& (2147483647 : Int32)) % (5 : Int32))), .unset, .unset] [(.int chr), (.int (18 : Int32)), (.ref a855), (.ref a855), (.ref a838), (.ref a838)] B_ := fun t_ hh => k123 t_ (by
            refine XS.dup X1164.here hx rfl (hb hby at_266) rfl rfl ?_
            refine XS.bipush X1164.here hx rfl (hb hby at_267) ?_
            refine XS.iload X1164.here hx rfl (hb hby at_269) rfl ?_
            exact hh)
          clear k123
          obtain ⟨cl1171, Ar1172, q1173, S1174, Ng1175, H1176, Gf1177⟩ := id V1170
          have hin1178 := inb_of (j := (18 : Int32)) S1174 (by decide)
          obtain ⟨T1179, h1180, X1181, e1182, W1183, st1184⟩ := stC X1164 hx hZ e1165 Ar1172 (j := (18 : Int32)) hin1178 (g := (mkF m 271 #[.val (.int av), .val (.int bv), .val (.int cv), .val (.int dv), .val (.int mo), .val (.int chp), .val (.int chq), .val (.int chr), .val (.int chs), .val (.int ((mo &&& (2147483647 : Int32)) % (5 : Int32))), .unset, .unset] [(.int chr), (.int (18 : Int32)), (.ref a855), (.ref a855), (.ref a838), (.ref a838)])) rfl rfl (hb hby at_271)
          have N1185 := Fr.snoc X1181 N1168 G857
          have K1186 : Keep h847 h1180 [a855] := K1169.wr W1183 own_m0
          have V1187 := Arv.set Ar1172 q1173 S1174 Ng1175 H1176 Gf1177 (v := (.int (nar .char chr))) (fits_nar_char _) W1183 18 rfl (own_lt rfl)
          have k125 : own_J p e below T1179 m 272 #[.val (.int av), .val (.int bv), .val (.int cv), .val (.int dv), .val (.int mo), .val (.int chp), .val (.int chq), .val (.int chr), .val (.int chs), .val (.int ((mo &&& (2147483647 : Int32)) % (5 : Int32))), .unset, .unset] [(.ref a855), (.ref a838), (.ref a838)] B_ := fun t_ hh => k124 t_ (st1184 t_ hh)
          clear k124 st1184 X1164 e1165 cl1171 Ar1172 q1173 S1174 Ng1175 H1176 Gf1177 hin1178 W1183 K1169 V1170 N1168
          have k126 : own_J p e below T1179 m 277 #[.val (.int av), .val (.int bv), .val (.int cv), .val (.int dv), .val (.int mo), .val (.int chp), .val (.int chq), .val (.int chr), .val (.int chs), .val (.int ((mo &&& (2147483647 : Int32)) % (5 : Int32))), .unset, .unset] [(.int chs), (.int (19 : Int32)), (.ref a855), (.ref a855), (.ref a838), (.ref a838)] B_ := fun t_ hh => k125 t_ (by
            refine XS.dup X1181.here hx rfl (hb hby at_272) rfl rfl ?_
            refine XS.bipush X1181.here hx rfl (hb hby at_273) ?_
            refine XS.iload X1181.here hx rfl (hb hby at_275) rfl ?_
            exact hh)
          clear k125
          obtain ⟨cl1188, Ar1189, q1190, S1191, Ng1192, H1193, Gf1194⟩ := id V1187
          have hin1195 := inb_of (j := (19 : Int32)) S1191 (by decide)
          obtain ⟨T1196, h1197, X1198, e1199, W1200, st1201⟩ := stC X1181 hx hZ e1182 Ar1189 (j := (19 : Int32)) hin1195 (g := (mkF m 277 #[.val (.int av), .val (.int bv), .val (.int cv), .val (.int dv), .val (.int mo), .val (.int chp), .val (.int chq), .val (.int chr), .val (.int chs), .val (.int ((mo &&& (2147483647 : Int32)) % (5 : Int32))), .unset, .unset] [(.int chs), (.int (19 : Int32)), (.ref a855), (.ref a855), (.ref a838), (.ref a838)])) rfl rfl (hb hby at_277)
          have N1202 := Fr.snoc X1198 N1185 G857
          have K1203 : Keep h847 h1197 [a855] := K1186.wr W1200 own_m0
          have V1204 := Arv.set Ar1189 q1190 S1191 Ng1192 H1193 Gf1194 (v := (.int (nar .char chs))) (fits_nar_char _) W1200 19 rfl (own_lt rfl)
          have k127 : own_J p e below T1196 m 278 #[.val (.int av), .val (.int bv), .val (.int cv), .val (.int dv), .val (.int mo), .val (.int chp), .val (.int chq), .val (.int chr), .val (.int chs), .val (.int ((mo &&& (2147483647 : Int32)) % (5 : Int32))), .unset, .unset] [(.ref a855), (.ref a838), (.ref a838)] B_ := fun t_ hh => k126 t_ (st1201 t_ hh)
          clear k126 st1201 X1181 e1182 cl1188 Ar1189 q1190 S1191 Ng1192 H1193 Gf1194 hin1195 W1200 K1186 V1187 N1185
          have k128 : own_J p e below T1196 m 283 #[.val (.int av), .val (.int bv), .val (.int cv), .val (.int dv), .val (.int mo), .val (.int chp), .val (.int chq), .val (.int chr), .val (.int chs), .val (.int ((mo &&& (2147483647 : Int32)) % (5 : Int32))), .unset, .unset] [(.int chp), (.int (20 : Int32)), (.ref a855), (.ref a855), (.ref a838), (.ref a838)] B_ := fun t_ hh => k127 t_ (by
            refine XS.dup X1198.here hx rfl (hb hby at_278) rfl rfl ?_
            refine XS.bipush X1198.here hx rfl (hb hby at_279) ?_
            refine XS.iload X1198.here hx rfl (hb hby at_281) rfl ?_
            exact hh)
          clear k127
          obtain ⟨cl1205, Ar1206, q1207, S1208, Ng1209, H1210, Gf1211⟩ := id V1204
          have hin1212 := inb_of (j := (20 : Int32)) S1208 (by decide)
          obtain ⟨T1213, h1214, X1215, e1216, W1217, st1218⟩ := stC X1198 hx hZ e1199 Ar1206 (j := (20 : Int32)) hin1212 (g := (mkF m 283 #[.val (.int av), .val (.int bv), .val (.int cv), .val (.int dv), .val (.int mo), .val (.int chp), .val (.int chq), .val (.int chr), .val (.int chs), .val (.int ((mo &&& (2147483647 : Int32)) % (5 : Int32))), .unset, .unset] [(.int chp), (.int (20 : Int32)), (.ref a855), (.ref a855), (.ref a838), (.ref a838)])) rfl rfl (hb hby at_283)
          have N1219 := Fr.snoc X1215 N1202 G857
          have K1220 : Keep h847 h1214 [a855] := K1203.wr W1217 own_m0
          have V1221 : Arv Z h1214 a855 kA848 .char (64 : Int32) [(.int (nar .char chp)), (.int (nar .char chq)), (.int (nar .char chr)), (.int (nar .char chs)), (.int (nar .char chp)), (.int (nar .char chq)), (.int (nar .char chr)), (.int (nar .char chs)), (.int (nar .char chp)), (.int (nar .char chq)), (.int (nar .char chr)), (.int (nar .char chs)), (.int (nar .char chp)), (.int (nar .char chq)), (.int (nar .char chr)), (.int (nar .char chs)), (.int (nar .char chp)), (.int (nar .char chq)), (.int (nar .char chr)), (.int (nar .char chs)), (.int (nar .char chp)), (.int (0 : Int32)), (.int (0 : Int32)), (.int (0 : Int32)), (.int (0 : Int32)), (.int (0 : Int32)), (.int (0 : Int32)), (.int (0 : Int32)), (.int (0 : Int32)), (.int (0 : Int32)), (.int (0 : Int32)), (.int (0 : Int32)), (.int (0 : Int32)), (.int (0 : Int32)), (.int (0 : Int32)), (.int (0 : Int32)), (.int (0 : Int32)), (.int (0 : Int32)), (.int (0 : Int32)), (.int (0 : Int32)), (.int (0 : Int32)), (.int (0 : Int32)), (.int (0 : Int32)), (.int (0 : Int32)), (.int (0 : Int32)), (.int (0 : Int32)), (.int (0 : Int32)), (.int (0 : Int32)), (.int (0 : Int32)), (.int (0 : Int32)), (.int (0 : Int32)), (.int (0 : Int32)), (.int (0 : Int32)), (.int (0 : Int32)), (.int (0 : Int32)), (.int (0 : Int32)), (.int (0 : Int32)), (.int (0 : Int32)), (.int (0 : Int32)), (.int (0 : Int32)), (.int (0 : Int32)), (.int (0 : Int32)), (.int (0 : Int32)), (.int (0 : Int32))] (.int (0 : Int32)) := Arv.set Ar1206 q1207 S1208 Ng1209 H1210 Gf1211 (fits_nar_char _) W1217 20 rfl (own_lt rfl)
          have k129 : own_J p e below T1213 m 284 #[.val (.int av), .val (.int bv), .val (.int cv), .val (.int dv), .val (.int mo), .val (.int chp), .val (.int chq), .val (.int chr), .val (.int chs), .val (.int ((mo &&& (2147483647 : Int32)) % (5 : Int32))), .unset, .unset] [(.ref a855), (.ref a838), (.ref a838)] B_ := fun t_ hh => k128 t_ (st1218 t_ hh)
          clear k128 st1218 X1198 e1199 cl1205 Ar1206 q1207 S1208 Ng1209 H1210 Gf1211 hin1212 W1217 K1203 V1204 N1202
          have k130 : own_J p e below T1213 m 289 #[.val (.int av), .val (.int bv), .val (.int cv), .val (.int dv), .val (.int mo), .val (.int chp), .val (.int chq), .val (.int chr), .val (.int chs), .val (.int ((mo &&& (2147483647 : Int32)) % (5 : Int32))), .unset, .unset] [(.int chq), (.int (21 : Int32)), (.ref a855), (.ref a855), (.ref a838), (.ref a838)] B_ := fun t_ hh => k129 t_ (by
            refine XS.dup X1215.here hx rfl (hb hby at_284) rfl rfl ?_
            refine XS.bipush X1215.here hx rfl (hb hby at_285) ?_
            refine XS.iload X1215.here hx rfl (hb hby at_287) rfl ?_
            exact hh)
          clear k129
          obtain ⟨cl1222, Ar1223, q1224, S1225, Ng1226, H1227, Gf1228⟩ := id V1221
          have hin1229 := inb_of (j := (21 : Int32)) S1225 (by decide)
          obtain ⟨T1230, h1231, X1232, e1233, W1234, st1235⟩ := stC X1215 hx hZ e1216 Ar1223 (j := (21 : Int32)) hin1229 (g := (mkF m 289 #[.val (.int av), .val (.int bv), .val (.int cv), .val (.int dv), .val (.int mo), .val (.int chp), .val (.int chq), .val (.int chr), .val (.int chs), .val (.int ((mo &&& (2147483647 : Int32)) % (5 : Int32))), .unset, .unset] [(.int chq), (.int (21 : Int32)), (.ref a855), (.ref a855), (.ref a838), (.ref a838)])) rfl rfl (hb hby at_289)
          have N1236 := Fr.snoc X1232 N1219 G857
          have K1237 : Keep h847 h1231 [a855] := K1220.wr W1234 own_m0
          have V1238 := Arv.set Ar1223 q1224 S1225 Ng1226 H1227 Gf1228 (v := (.int (nar .char chq))) (fits_nar_char _) W1234 21 rfl (own_lt rfl)
          have k131 : own_J p e below T1230 m 290 #[.val (.int av), .val (.int bv), .val (.int cv), .val (.int dv), .val (.int mo), .val (.int chp), .val (.int chq), .val (.int chr), .val (.int chs), .val (.int ((mo &&& (2147483647 : Int32)) % (5 : Int32))), .unset, .unset] [(.ref a855), (.ref a838), (.ref a838)] B_ := fun t_ hh => k130 t_ (st1235 t_ hh)
          clear k130 st1235 X1215 e1216 cl1222 Ar1223 q1224 S1225 Ng1226 H1227 Gf1228 hin1229 W1234 K1220 V1221 N1219
          have k132 : own_J p e below T1230 m 295 #[.val (.int av), .val (.int bv), .val (.int cv), .val (.int dv), .val (.int mo), .val (.int chp), .val (.int chq), .val (.int chr), .val (.int chs), .val (.int ((mo &&& (2147483647 : Int32)) % (5 : Int32))), .unset, .unset] [(.int chr), (.int (22 : Int32)), (.ref a855), (.ref a855), (.ref a838), (.ref a838)] B_ := fun t_ hh => k131 t_ (by
            refine XS.dup X1232.here hx rfl (hb hby at_290) rfl rfl ?_
            refine XS.bipush X1232.here hx rfl (hb hby at_291) ?_
            refine XS.iload X1232.here hx rfl (hb hby at_293) rfl ?_
            exact hh)
          clear k131
          obtain ⟨cl1239, Ar1240, q1241, S1242, Ng1243, H1244, Gf1245⟩ := id V1238
          have hin1246 := inb_of (j := (22 : Int32)) S1242 (by decide)
          obtain ⟨T1247, h1248, X1249, e1250, W1251, st1252⟩ := stC X1232 hx hZ e1233 Ar1240 (j := (22 : Int32)) hin1246 (g := (mkF m 295 #[.val (.int av), .val (.int bv), .val (.int cv), .val (.int dv), .val (.int mo), .val (.int chp), .val (.int chq), .val (.int chr), .val (.int chs), .val (.int ((mo &&& (2147483647 : Int32)) % (5 : Int32))), .unset, .unset] [(.int chr), (.int (22 : Int32)), (.ref a855), (.ref a855), (.ref a838), (.ref a838)])) rfl rfl (hb hby at_295)
          have N1253 := Fr.snoc X1249 N1236 G857
          have K1254 : Keep h847 h1248 [a855] := K1237.wr W1251 own_m0
          have V1255 := Arv.set Ar1240 q1241 S1242 Ng1243 H1244 Gf1245 (v := (.int (nar .char chr))) (fits_nar_char _) W1251 22 rfl (own_lt rfl)
          have k133 : own_J p e below T1247 m 296 #[.val (.int av), .val (.int bv), .val (.int cv), .val (.int dv), .val (.int mo), .val (.int chp), .val (.int chq), .val (.int chr), .val (.int chs), .val (.int ((mo &&& (2147483647 : Int32)) % (5 : Int32))), .unset, .unset] [(.ref a855), (.ref a838), (.ref a838)] B_ := fun t_ hh => k132 t_ (st1252 t_ hh)
          clear k132 st1252 X1232 e1233 cl1239 Ar1240 q1241 S1242 Ng1243 H1244 Gf1245 hin1246 W1251 K1237 V1238 N1236
          have k134 : own_J p e below T1247 m 301 #[.val (.int av), .val (.int bv), .val (.int cv), .val (.int dv), .val (.int mo), .val (.int chp), .val (.int chq), .val (.int chr), .val (.int chs), .val (.int ((mo &&& (2147483647 : Int32)) % (5 : Int32))), .unset, .unset] [(.int chs), (.int (23 : Int32)), (.ref a855), (.ref a855), (.ref a838), (.ref a838)] B_ := fun t_ hh => k133 t_ (by
            refine XS.dup X1249.here hx rfl (hb hby at_296) rfl rfl ?_
            refine XS.bipush X1249.here hx rfl (hb hby at_297) ?_
            refine XS.iload X1249.here hx rfl (hb hby at_299) rfl ?_
            exact hh)
          clear k133
          obtain ⟨cl1256, Ar1257, q1258, S1259, Ng1260, H1261, Gf1262⟩ := id V1255
          have hin1263 := inb_of (j := (23 : Int32)) S1259 (by decide)
          obtain ⟨T1264, h1265, X1266, e1267, W1268, st1269⟩ := stC X1249 hx hZ e1250 Ar1257 (j := (23 : Int32)) hin1263 (g := (mkF m 301 #[.val (.int av), .val (.int bv), .val (.int cv), .val (.int dv), .val (.int mo), .val (.int chp), .val (.int chq), .val (.int chr), .val (.int chs), .val (.int ((mo &&& (2147483647 : Int32)) % (5 : Int32))), .unset, .unset] [(.int chs), (.int (23 : Int32)), (.ref a855), (.ref a855), (.ref a838), (.ref a838)])) rfl rfl (hb hby at_301)
          have N1270 := Fr.snoc X1266 N1253 G857
          have K1271 : Keep h847 h1265 [a855] := K1254.wr W1268 own_m0
          have V1272 : Arv Z h1265 a855 kA848 .char (64 : Int32) [(.int (nar .char chp)), (.int (nar .char chq)), (.int (nar .char chr)), (.int (nar .char chs)), (.int (nar .char chp)), (.int (nar .char chq)), (.int (nar .char chr)), (.int (nar .char chs)), (.int (nar .char chp)), (.int (nar .char chq)), (.int (nar .char chr)), (.int (nar .char chs)), (.int (nar .char chp)), (.int (nar .char chq)), (.int (nar .char chr)), (.int (nar .char chs)), (.int (nar .char chp)), (.int (nar .char chq)), (.int (nar .char chr)), (.int (nar .char chs)), (.int (nar .char chp)), (.int (nar .char chq)), (.int (nar .char chr)), (.int (nar .char chs)), (.int (0 : Int32)), (.int (0 : Int32)), (.int (0 : Int32)), (.int (0 : Int32)), (.int (0 : Int32)), (.int (0 : Int32)), (.int (0 : Int32)), (.int (0 : Int32)), (.int (0 : Int32)), (.int (0 : Int32)), (.int (0 : Int32)), (.int (0 : Int32)), (.int (0 : Int32)), (.int (0 : Int32)), (.int (0 : Int32)), (.int (0 : Int32)), (.int (0 : Int32)), (.int (0 : Int32)), (.int (0 : Int32)), (.int (0 : Int32)), (.int (0 : Int32)), (.int (0 : Int32)), (.int (0 : Int32)), (.int (0 : Int32)), (.int (0 : Int32)), (.int (0 : Int32)), (.int (0 : Int32)), (.int (0 : Int32)), (.int (0 : Int32)), (.int (0 : Int32)), (.int (0 : Int32)), (.int (0 : Int32)), (.int (0 : Int32)), (.int (0 : Int32)), (.int (0 : Int32)), (.int (0 : Int32)), (.int (0 : Int32)), (.int (0 : Int32)), (.int (0 : Int32)), (.int (0 : Int32))] (.int (0 : Int32)) := Arv.set Ar1257 q1258 S1259 Ng1260 H1261 Gf1262 (fits_nar_char _) W1268 23 rfl (own_lt rfl)
          have k135 : own_J p e below T1264 m 302 #[.val (.int av), .val (.int bv), .val (.int cv), .val (.int dv), .val (.int mo), .val (.int chp), .val (.int chq), .val (.int chr), .val (.int chs), .val (.int ((mo &&& (2147483647 : Int32)) % (5 : Int32))), .unset, .unset] [(.ref a855), (.ref a838), (.ref a838)] B_ := fun t_ hh => k134 t_ (st1269 t_ hh)
          clear k134 st1269 X1249 e1250 cl1256 Ar1257 q1258 S1259 Ng1260 H1261 Gf1262 hin1263 W1268 K1254 V1255 N1253
          have k136 : own_J p e below T1264 m 307 #[.val (.int av), .val (.int bv), .val (.int cv), .val (.int dv), .val (.int mo), .val (.int chp), .val (.int chq), .val (.int chr), .val (.int chs), .val (.int ((mo &&& (2147483647 : Int32)) % (5 : Int32))), .unset, .unset] [(.int chp), (.int (24 : Int32)), (.ref a855), (.ref a855), (.ref a838), (.ref a838)] B_ := fun t_ hh => k135 t_ (by
            refine XS.dup X1266.here hx rfl (hb hby at_302) rfl rfl ?_
            refine XS.bipush X1266.here hx rfl (hb hby at_303) ?_
            refine XS.iload X1266.here hx rfl (hb hby at_305) rfl ?_
            exact hh)
          clear k135
          obtain ⟨cl1273, Ar1274, q1275, S1276, Ng1277, H1278, Gf1279⟩ := id V1272
          have hin1280 := inb_of (j := (24 : Int32)) S1276 (by decide)
          obtain ⟨T1281, h1282, X1283, e1284, W1285, st1286⟩ := stC X1266 hx hZ e1267 Ar1274 (j := (24 : Int32)) hin1280 (g := (mkF m 307 #[.val (.int av), .val (.int bv), .val (.int cv), .val (.int dv), .val (.int mo), .val (.int chp), .val (.int chq), .val (.int chr), .val (.int chs), .val (.int ((mo &&& (2147483647 : Int32)) % (5 : Int32))), .unset, .unset] [(.int chp), (.int (24 : Int32)), (.ref a855), (.ref a855), (.ref a838), (.ref a838)])) rfl rfl (hb hby at_307)
          have N1287 := Fr.snoc X1283 N1270 G857
          have K1288 : Keep h847 h1282 [a855] := K1271.wr W1285 own_m0
          have V1289 := Arv.set Ar1274 q1275 S1276 Ng1277 H1278 Gf1279 (v := (.int (nar .char chp))) (fits_nar_char _) W1285 24 rfl (own_lt rfl)
          have k137 : own_J p e below T1281 m 308 #[.val (.int av), .val (.int bv), .val (.int cv), .val (.int dv), .val (.int mo), .val (.int chp), .val (.int chq), .val (.int chr), .val (.int chs), .val (.int ((mo &&& (2147483647 : Int32)) % (5 : Int32))), .unset, .unset] [(.ref a855), (.ref a838), (.ref a838)] B_ := fun t_ hh => k136 t_ (st1286 t_ hh)
          clear k136 st1286 X1266 e1267 cl1273 Ar1274 q1275 S1276 Ng1277 H1278 Gf1279 hin1280 W1285 K1271 V1272 N1270
          have k138 : own_J p e below T1281 m 313 #[.val (.int av), .val (.int bv), .val (.int cv), .val (.int dv), .val (.int mo), .val (.int chp), .val (.int chq), .val (.int chr), .val (.int chs), .val (.int ((mo &&& (2147483647 : Int32)) % (5 : Int32))), .unset, .unset] [(.int chq), (.int (25 : Int32)), (.ref a855), (.ref a855), (.ref a838), (.ref a838)] B_ := fun t_ hh => k137 t_ (by
            refine XS.dup X1283.here hx rfl (hb hby at_308) rfl rfl ?_
            refine XS.bipush X1283.here hx rfl (hb hby at_309) ?_
            refine XS.iload X1283.here hx rfl (hb hby at_311) rfl ?_
            exact hh)
          clear k137
          obtain ⟨cl1290, Ar1291, q1292, S1293, Ng1294, H1295, Gf1296⟩ := id V1289
          have hin1297 := inb_of (j := (25 : Int32)) S1293 (by decide)
          obtain ⟨T1298, h1299, X1300, e1301, W1302, st1303⟩ := stC X1283 hx hZ e1284 Ar1291 (j := (25 : Int32)) hin1297 (g := (mkF m 313 #[.val (.int av), .val (.int bv), .val (.int cv), .val (.int dv), .val (.int mo), .val (.int chp), .val (.int chq), .val (.int chr), .val (.int chs), .val (.int ((mo &&& (2147483647 : Int32)) % (5 : Int32))), .unset, .unset] [(.int chq), (.int (25 : Int32)), (.ref a855), (.ref a855), (.ref a838), (.ref a838)])) rfl rfl (hb hby at_313)
          have N1304 := Fr.snoc X1300 N1287 G857
          have K1305 : Keep h847 h1299 [a855] := K1288.wr W1302 own_m0
          have V1306 := Arv.set Ar1291 q1292 S1293 Ng1294 H1295 Gf1296 (v := (.int (nar .char chq))) (fits_nar_char _) W1302 25 rfl (own_lt rfl)
          have k139 : own_J p e below T1298 m 314 #[.val (.int av), .val (.int bv), .val (.int cv), .val (.int dv), .val (.int mo), .val (.int chp), .val (.int chq), .val (.int chr), .val (.int chs), .val (.int ((mo &&& (2147483647 : Int32)) % (5 : Int32))), .unset, .unset] [(.ref a855), (.ref a838), (.ref a838)] B_ := fun t_ hh => k138 t_ (st1303 t_ hh)
          clear k138 st1303 X1283 e1284 cl1290 Ar1291 q1292 S1293 Ng1294 H1295 Gf1296 hin1297 W1302 K1288 V1289 N1287
          have k140 : own_J p e below T1298 m 319 #[.val (.int av), .val (.int bv), .val (.int cv), .val (.int dv), .val (.int mo), .val (.int chp), .val (.int chq), .val (.int chr), .val (.int chs), .val (.int ((mo &&& (2147483647 : Int32)) % (5 : Int32))), .unset, .unset] [(.int chr), (.int (26 : Int32)), (.ref a855), (.ref a855), (.ref a838), (.ref a838)] B_ := fun t_ hh => k139 t_ (by
            refine XS.dup X1300.here hx rfl (hb hby at_314) rfl rfl ?_
            refine XS.bipush X1300.here hx rfl (hb hby at_315) ?_
            refine XS.iload X1300.here hx rfl (hb hby at_317) rfl ?_
            exact hh)
          clear k139
          obtain ⟨cl1307, Ar1308, q1309, S1310, Ng1311, H1312, Gf1313⟩ := id V1306
          have hin1314 := inb_of (j := (26 : Int32)) S1310 (by decide)
          obtain ⟨T1315, h1316, X1317, e1318, W1319, st1320⟩ := stC X1300 hx hZ e1301 Ar1308 (j := (26 : Int32)) hin1314 (g := (mkF m 319 #[.val (.int av), .val (.int bv), .val (.int cv), .val (.int dv), .val (.int mo), .val (.int chp), .val (.int chq), .val (.int chr), .val (.int chs), .val (.int ((mo &&& (2147483647 : Int32)) % (5 : Int32))), .unset, .unset] [(.int chr), (.int (26 : Int32)), (.ref a855), (.ref a855), (.ref a838), (.ref a838)])) rfl rfl (hb hby at_319)
          have N1321 := Fr.snoc X1317 N1304 G857
          have K1322 : Keep h847 h1316 [a855] := K1305.wr W1319 own_m0
          have V1323 : Arv Z h1316 a855 kA848 .char (64 : Int32) [(.int (nar .char chp)), (.int (nar .char chq)), (.int (nar .char chr)), (.int (nar .char chs)), (.int (nar .char chp)), (.int (nar .char chq)), (.int (nar .char chr)), (.int (nar .char chs)), (.int (nar .char chp)), (.int (nar .char chq)), (.int (nar .char chr)), (.int (nar .char chs)), (.int (nar .char chp)), (.int (nar .char chq)), (.int (nar .char chr)), (.int (nar .char chs)), (.int (nar .char chp)), (.int (nar .char chq)), (.int (nar .char chr)), (.int (nar .char chs)), (.int (nar .char chp)), (.int (nar .char chq)), (.int (nar .char chr)), (.int (nar .char chs)), (.int (nar .char chp)), (.int (nar .char chq)), (.int (nar .char chr)), (.int (0 : Int32)), (.int (0 : Int32)), (.int (0 : Int32)), (.int (0 : Int32)), (.int (0 : Int32)), (.int (0 : Int32)), (.int (0 : Int32)), (.int (0 : Int32)), (.int (0 : Int32)), (.int (0 : Int32)), (.int (0 : Int32)), (.int (0 : Int32)), (.int (0 : Int32)), (.int (0 : Int32)), (.int (0 : Int32)), (.int (0 : Int32)), (.int (0 : Int32)), (.int (0 : Int32)), (.int (0 : Int32)), (.int (0 : Int32)), (.int (0 : Int32)), (.int (0 : Int32)), (.int (0 : Int32)), (.int (0 : Int32)), (.int (0 : Int32)), (.int (0 : Int32)), (.int (0 : Int32)), (.int (0 : Int32)), (.int (0 : Int32)), (.int (0 : Int32)), (.int (0 : Int32)), (.int (0 : Int32)), (.int (0 : Int32)), (.int (0 : Int32)), (.int (0 : Int32)), (.int (0 : Int32)), (.int (0 : Int32))] (.int (0 : Int32)) := Arv.set Ar1308 q1309 S1310 Ng1311 H1312 Gf1313 (fits_nar_char _) W1319 26 rfl (own_lt rfl)
          have k141 : own_J p e below T1315 m 320 #[.val (.int av), .val (.int bv), .val (.int cv), .val (.int dv), .val (.int mo), .val (.int chp), .val (.int chq), .val (.int chr), .val (.int chs), .val (.int ((mo &&& (2147483647 : Int32)) % (5 : Int32))), .unset, .unset] [(.ref a855), (.ref a838), (.ref a838)] B_ := fun t_ hh => k140 t_ (st1320 t_ hh)
          clear k140 st1320 X1300 e1301 cl1307 Ar1308 q1309 S1310 Ng1311 H1312 Gf1313 hin1314 W1319 K1305 V1306 N1304
          have k142 : own_J p e below T1315 m 325 #[.val (.int av), .val (.int bv), .val (.int cv), .val (.int dv), .val (.int mo), .val (.int chp), .val (.int chq), .val (.int chr), .val (.int chs), .val (.int ((mo &&& (2147483647 : Int32)) % (5 : Int32))), .unset, .unset] [(.int chs), (.int (27 : Int32)), (.ref a855), (.ref a855), (.ref a838), (.ref a838)] B_ := fun t_ hh => k141 t_ (by
            refine XS.dup X1317.here hx rfl (hb hby at_320) rfl rfl ?_
            refine XS.bipush X1317.here hx rfl (hb hby at_321) ?_
            refine XS.iload X1317.here hx rfl (hb hby at_323) rfl ?_
            exact hh)
          clear k141
          obtain ⟨cl1324, Ar1325, q1326, S1327, Ng1328, H1329, Gf1330⟩ := id V1323
          have hin1331 := inb_of (j := (27 : Int32)) S1327 (by decide)
          obtain ⟨T1332, h1333, X1334, e1335, W1336, st1337⟩ := stC X1317 hx hZ e1318 Ar1325 (j := (27 : Int32)) hin1331 (g := (mkF m 325 #[.val (.int av), .val (.int bv), .val (.int cv), .val (.int dv), .val (.int mo), .val (.int chp), .val (.int chq), .val (.int chr), .val (.int chs), .val (.int ((mo &&& (2147483647 : Int32)) % (5 : Int32))), .unset, .unset] [(.int chs), (.int (27 : Int32)), (.ref a855), (.ref a855), (.ref a838), (.ref a838)])) rfl rfl (hb hby at_325)
          have N1338 := Fr.snoc X1334 N1321 G857
          have K1339 : Keep h847 h1333 [a855] := K1322.wr W1336 own_m0
          have V1340 := Arv.set Ar1325 q1326 S1327 Ng1328 H1329 Gf1330 (v := (.int (nar .char chs))) (fits_nar_char _) W1336 27 rfl (own_lt rfl)
          have k143 : own_J p e below T1332 m 326 #[.val (.int av), .val (.int bv), .val (.int cv), .val (.int dv), .val (.int mo), .val (.int chp), .val (.int chq), .val (.int chr), .val (.int chs), .val (.int ((mo &&& (2147483647 : Int32)) % (5 : Int32))), .unset, .unset] [(.ref a855), (.ref a838), (.ref a838)] B_ := fun t_ hh => k142 t_ (st1337 t_ hh)
          clear k142 st1337 X1317 e1318 cl1324 Ar1325 q1326 S1327 Ng1328 H1329 Gf1330 hin1331 W1336 K1322 V1323 N1321
          have k144 : own_J p e below T1332 m 331 #[.val (.int av), .val (.int bv), .val (.int cv), .val (.int dv), .val (.int mo), .val (.int chp), .val (.int chq), .val (.int chr), .val (.int chs), .val (.int ((mo &&& (2147483647 : Int32)) % (5 : Int32))), .unset, .unset] [(.int chp), (.int (28 : Int32)), (.ref a855), (.ref a855), (.ref a838), (.ref a838)] B_ := fun t_ hh => k143 t_ (by
            refine XS.dup X1334.here hx rfl (hb hby at_326) rfl rfl ?_
            refine XS.bipush X1334.here hx rfl (hb hby at_327) ?_
            refine XS.iload X1334.here hx rfl (hb hby at_329) rfl ?_
            exact hh)
          clear k143
          obtain ⟨cl1341, Ar1342, q1343, S1344, Ng1345, H1346, Gf1347⟩ := id V1340
          have hin1348 := inb_of (j := (28 : Int32)) S1344 (by decide)
          obtain ⟨T1349, h1350, X1351, e1352, W1353, st1354⟩ := stC X1334 hx hZ e1335 Ar1342 (j := (28 : Int32)) hin1348 (g := (mkF m 331 #[.val (.int av), .val (.int bv), .val (.int cv), .val (.int dv), .val (.int mo), .val (.int chp), .val (.int chq), .val (.int chr), .val (.int chs), .val (.int ((mo &&& (2147483647 : Int32)) % (5 : Int32))), .unset, .unset] [(.int chp), (.int (28 : Int32)), (.ref a855), (.ref a855), (.ref a838), (.ref a838)])) rfl rfl (hb hby at_331)
          have N1355 := Fr.snoc X1351 N1338 G857
          have K1356 : Keep h847 h1350 [a855] := K1339.wr W1353 own_m0
          have V1357 := Arv.set Ar1342 q1343 S1344 Ng1345 H1346 Gf1347 (v := (.int (nar .char chp))) (fits_nar_char _) W1353 28 rfl (own_lt rfl)
          have k145 : own_J p e below T1349 m 332 #[.val (.int av), .val (.int bv), .val (.int cv), .val (.int dv), .val (.int mo), .val (.int chp), .val (.int chq), .val (.int chr), .val (.int chs), .val (.int ((mo &&& (2147483647 : Int32)) % (5 : Int32))), .unset, .unset] [(.ref a855), (.ref a838), (.ref a838)] B_ := fun t_ hh => k144 t_ (st1354 t_ hh)
          clear k144 st1354 X1334 e1335 cl1341 Ar1342 q1343 S1344 Ng1345 H1346 Gf1347 hin1348 W1353 K1339 V1340 N1338
          have k146 : own_J p e below T1349 m 337 #[.val (.int av), .val (.int bv), .val (.int cv), .val (.int dv), .val (.int mo), .val (.int chp), .val (.int chq), .val (.int chr), .val (.int chs), .val (.int ((mo &&& (2147483647 : Int32)) % (5 : Int32))), .unset, .unset] [(.int chq), (.int (29 : Int32)), (.ref a855), (.ref a855), (.ref a838), (.ref a838)] B_ := fun t_ hh => k145 t_ (by
            refine XS.dup X1351.here hx rfl (hb hby at_332) rfl rfl ?_
            refine XS.bipush X1351.here hx rfl (hb hby at_333) ?_
            refine XS.iload X1351.here hx rfl (hb hby at_335) rfl ?_
            exact hh)
          clear k145
          obtain ⟨cl1358, Ar1359, q1360, S1361, Ng1362, H1363, Gf1364⟩ := id V1357
          have hin1365 := inb_of (j := (29 : Int32)) S1361 (by decide)
          obtain ⟨T1366, h1367, X1368, e1369, W1370, st1371⟩ := stC X1351 hx hZ e1352 Ar1359 (j := (29 : Int32)) hin1365 (g := (mkF m 337 #[.val (.int av), .val (.int bv), .val (.int cv), .val (.int dv), .val (.int mo), .val (.int chp), .val (.int chq), .val (.int chr), .val (.int chs), .val (.int ((mo &&& (2147483647 : Int32)) % (5 : Int32))), .unset, .unset] [(.int chq), (.int (29 : Int32)), (.ref a855), (.ref a855), (.ref a838), (.ref a838)])) rfl rfl (hb hby at_337)
          have N1372 := Fr.snoc X1368 N1355 G857
          have K1373 : Keep h847 h1367 [a855] := K1356.wr W1370 own_m0
          have V1374 : Arv Z h1367 a855 kA848 .char (64 : Int32) [(.int (nar .char chp)), (.int (nar .char chq)), (.int (nar .char chr)), (.int (nar .char chs)), (.int (nar .char chp)), (.int (nar .char chq)), (.int (nar .char chr)), (.int (nar .char chs)), (.int (nar .char chp)), (.int (nar .char chq)), (.int (nar .char chr)), (.int (nar .char chs)), (.int (nar .char chp)), (.int (nar .char chq)), (.int (nar .char chr)), (.int (nar .char chs)), (.int (nar .char chp)), (.int (nar .char chq)), (.int (nar .char chr)), (.int (nar .char chs)), (.int (nar .char chp)), (.int (nar .char chq)), (.int (nar .char chr)), (.int (nar .char chs)), (.int (nar .char chp)), (.int (nar .char chq)), (.int (nar .char chr)), (.int (nar .char chs)), (.int (nar .char chp)), (.int (nar .char chq)), (.int (0 : Int32)), (.int (0 : Int32)), (.int (0 : Int32)), (.int (0 : Int32)), (.int (0 : Int32)), (.int (0 : Int32)), (.int (0 : Int32)), (.int (0 : Int32)), (.int (0 : Int32)), (.int (0 : Int32)), (.int (0 : Int32)), (.int (0 : Int32)), (.int (0 : Int32)), (.int (0 : Int32)), (.int (0 : Int32)), (.int (0 : Int32)), (.int (0 : Int32)), (.int (0 : Int32)), (.int (0 : Int32)), (.int (0 : Int32)), (.int (0 : Int32)), (.int (0 : Int32)), (.int (0 : Int32)), (.int (0 : Int32)), (.int (0 : Int32)), (.int (0 : Int32)), (.int (0 : Int32)), (.int (0 : Int32)), (.int (0 : Int32)), (.int (0 : Int32)), (.int (0 : Int32)), (.int (0 : Int32)), (.int (0 : Int32)), (.int (0 : Int32))] (.int (0 : Int32)) := Arv.set Ar1359 q1360 S1361 Ng1362 H1363 Gf1364 (fits_nar_char _) W1370 29 rfl (own_lt rfl)
          have k147 : own_J p e below T1366 m 338 #[.val (.int av), .val (.int bv), .val (.int cv), .val (.int dv), .val (.int mo), .val (.int chp), .val (.int chq), .val (.int chr), .val (.int chs), .val (.int ((mo &&& (2147483647 : Int32)) % (5 : Int32))), .unset, .unset] [(.ref a855), (.ref a838), (.ref a838)] B_ := fun t_ hh => k146 t_ (st1371 t_ hh)
          clear k146 st1371 X1351 e1352 cl1358 Ar1359 q1360 S1361 Ng1362 H1363 Gf1364 hin1365 W1370 K1356 V1357 N1355
          have k148 : own_J p e below T1366 m 343 #[.val (.int av), .val (.int bv), .val (.int cv), .val (.int dv), .val (.int mo), .val (.int chp), .val (.int chq), .val (.int chr), .val (.int chs), .val (.int ((mo &&& (2147483647 : Int32)) % (5 : Int32))), .unset, .unset] [(.int chr), (.int (30 : Int32)), (.ref a855), (.ref a855), (.ref a838), (.ref a838)] B_ := fun t_ hh => k147 t_ (by
            refine XS.dup X1368.here hx rfl (hb hby at_338) rfl rfl ?_
            refine XS.bipush X1368.here hx rfl (hb hby at_339) ?_
            refine XS.iload X1368.here hx rfl (hb hby at_341) rfl ?_
            exact hh)
          clear k147
          obtain ⟨cl1375, Ar1376, q1377, S1378, Ng1379, H1380, Gf1381⟩ := id V1374
          have hin1382 := inb_of (j := (30 : Int32)) S1378 (by decide)
          obtain ⟨T1383, h1384, X1385, e1386, W1387, st1388⟩ := stC X1368 hx hZ e1369 Ar1376 (j := (30 : Int32)) hin1382 (g := (mkF m 343 #[.val (.int av), .val (.int bv), .val (.int cv), .val (.int dv), .val (.int mo), .val (.int chp), .val (.int chq), .val (.int chr), .val (.int chs), .val (.int ((mo &&& (2147483647 : Int32)) % (5 : Int32))), .unset, .unset] [(.int chr), (.int (30 : Int32)), (.ref a855), (.ref a855), (.ref a838), (.ref a838)])) rfl rfl (hb hby at_343)
          have N1389 := Fr.snoc X1385 N1372 G857
          have K1390 : Keep h847 h1384 [a855] := K1373.wr W1387 own_m0
          have V1391 := Arv.set Ar1376 q1377 S1378 Ng1379 H1380 Gf1381 (v := (.int (nar .char chr))) (fits_nar_char _) W1387 30 rfl (own_lt rfl)
          have k149 : own_J p e below T1383 m 344 #[.val (.int av), .val (.int bv), .val (.int cv), .val (.int dv), .val (.int mo), .val (.int chp), .val (.int chq), .val (.int chr), .val (.int chs), .val (.int ((mo &&& (2147483647 : Int32)) % (5 : Int32))), .unset, .unset] [(.ref a855), (.ref a838), (.ref a838)] B_ := fun t_ hh => k148 t_ (st1388 t_ hh)
          clear k148 st1388 X1368 e1369 cl1375 Ar1376 q1377 S1378 Ng1379 H1380 Gf1381 hin1382 W1387 K1373 V1374 N1372
          have k150 : own_J p e below T1383 m 349 #[.val (.int av), .val (.int bv), .val (.int cv), .val (.int dv), .val (.int mo), .val (.int chp), .val (.int chq), .val (.int chr), .val (.int chs), .val (.int ((mo &&& (2147483647 : Int32)) % (5 : Int32))), .unset, .unset] [(.int chs), (.int (31 : Int32)), (.ref a855), (.ref a855), (.ref a838), (.ref a838)] B_ := fun t_ hh => k149 t_ (by
            refine XS.dup X1385.here hx rfl (hb hby at_344) rfl rfl ?_
            refine XS.bipush X1385.here hx rfl (hb hby at_345) ?_
            refine XS.iload X1385.here hx rfl (hb hby at_347) rfl ?_
            exact hh)
          clear k149
          obtain ⟨cl1392, Ar1393, q1394, S1395, Ng1396, H1397, Gf1398⟩ := id V1391
          have hin1399 := inb_of (j := (31 : Int32)) S1395 (by decide)
          obtain ⟨T1400, h1401, X1402, e1403, W1404, st1405⟩ := stC X1385 hx hZ e1386 Ar1393 (j := (31 : Int32)) hin1399 (g := (mkF m 349 #[.val (.int av), .val (.int bv), .val (.int cv), .val (.int dv), .val (.int mo), .val (.int chp), .val (.int chq), .val (.int chr), .val (.int chs), .val (.int ((mo &&& (2147483647 : Int32)) % (5 : Int32))), .unset, .unset] [(.int chs), (.int (31 : Int32)), (.ref a855), (.ref a855), (.ref a838), (.ref a838)])) rfl rfl (hb hby at_349)
          have N1406 := Fr.snoc X1402 N1389 G857
          have K1407 : Keep h847 h1401 [a855] := K1390.wr W1404 own_m0
          have V1408 := Arv.set Ar1393 q1394 S1395 Ng1396 H1397 Gf1398 (v := (.int (nar .char chs))) (fits_nar_char _) W1404 31 rfl (own_lt rfl)
          have k151 : own_J p e below T1400 m 350 #[.val (.int av), .val (.int bv), .val (.int cv), .val (.int dv), .val (.int mo), .val (.int chp), .val (.int chq), .val (.int chr), .val (.int chs), .val (.int ((mo &&& (2147483647 : Int32)) % (5 : Int32))), .unset, .unset] [(.ref a855), (.ref a838), (.ref a838)] B_ := fun t_ hh => k150 t_ (st1405 t_ hh)
          clear k150 st1405 X1385 e1386 cl1392 Ar1393 q1394 S1395 Ng1396 H1397 Gf1398 hin1399 W1404 K1390 V1391 N1389
          have k152 : own_J p e below T1400 m 355 #[.val (.int av), .val (.int bv), .val (.int cv), .val (.int dv), .val (.int mo), .val (.int chp), .val (.int chq), .val (.int chr), .val (.int chs), .val (.int ((mo &&& (2147483647 : Int32)) % (5 : Int32))), .unset, .unset] [(.int chp), (.int (32 : Int32)), (.ref a855), (.ref a855), (.ref a838), (.ref a838)] B_ := fun t_ hh => k151 t_ (by
            refine XS.dup X1402.here hx rfl (hb hby at_350) rfl rfl ?_
            refine XS.bipush X1402.here hx rfl (hb hby at_351) ?_
            refine XS.iload X1402.here hx rfl (hb hby at_353) rfl ?_
            exact hh)
          clear k151
          obtain ⟨cl1409, Ar1410, q1411, S1412, Ng1413, H1414, Gf1415⟩ := id V1408
          have hin1416 := inb_of (j := (32 : Int32)) S1412 (by decide)
          obtain ⟨T1417, h1418, X1419, e1420, W1421, st1422⟩ := stC X1402 hx hZ e1403 Ar1410 (j := (32 : Int32)) hin1416 (g := (mkF m 355 #[.val (.int av), .val (.int bv), .val (.int cv), .val (.int dv), .val (.int mo), .val (.int chp), .val (.int chq), .val (.int chr), .val (.int chs), .val (.int ((mo &&& (2147483647 : Int32)) % (5 : Int32))), .unset, .unset] [(.int chp), (.int (32 : Int32)), (.ref a855), (.ref a855), (.ref a838), (.ref a838)])) rfl rfl (hb hby at_355)
          have N1423 := Fr.snoc X1419 N1406 G857
          have K1424 : Keep h847 h1418 [a855] := K1407.wr W1421 own_m0
          have V1425 : Arv Z h1418 a855 kA848 .char (64 : Int32) [(.int (nar .char chp)), (.int (nar .char chq)), (.int (nar .char chr)), (.int (nar .char chs)), (.int (nar .char chp)), (.int (nar .char chq)), (.int (nar .char chr)), (.int (nar .char chs)), (.int (nar .char chp)), (.int (nar .char chq)), (.int (nar .char chr)), (.int (nar .char chs)), (.int (nar .char chp)), (.int (nar .char chq)), (.int (nar .char chr)), (.int (nar .char chs)), (.int (nar .char chp)), (.int (nar .char chq)), (.int (nar .char chr)), (.int (nar .char chs)), (.int (nar .char chp)), (.int (nar .char chq)), (.int (nar .char chr)), (.int (nar .char chs)), (.int (nar .char chp)), (.int (nar .char chq)), (.int (nar .char chr)), (.int (nar .char chs)), (.int (nar .char chp)), (.int (nar .char chq)), (.int (nar .char chr)), (.int (nar .char chs)), (.int (nar .char chp)), (.int (0 : Int32)), (.int (0 : Int32)), (.int (0 : Int32)), (.int (0 : Int32)), (.int (0 : Int32)), (.int (0 : Int32)), (.int (0 : Int32)), (.int (0 : Int32)), (.int (0 : Int32)), (.int (0 : Int32)), (.int (0 : Int32)), (.int (0 : Int32)), (.int (0 : Int32)), (.int (0 : Int32)), (.int (0 : Int32)), (.int (0 : Int32)), (.int (0 : Int32)), (.int (0 : Int32)), (.int (0 : Int32)), (.int (0 : Int32)), (.int (0 : Int32)), (.int (0 : Int32)), (.int (0 : Int32)), (.int (0 : Int32)), (.int (0 : Int32)), (.int (0 : Int32)), (.int (0 : Int32)), (.int (0 : Int32)), (.int (0 : Int32)), (.int (0 : Int32)), (.int (0 : Int32))] (.int (0 : Int32)) := Arv.set Ar1410 q1411 S1412 Ng1413 H1414 Gf1415 (fits_nar_char _) W1421 32 rfl (own_lt rfl)
          have k153 : own_J p e below T1417 m 356 #[.val (.int av), .val (.int bv), .val (.int cv), .val (.int dv), .val (.int mo), .val (.int chp), .val (.int chq), .val (.int chr), .val (.int chs), .val (.int ((mo &&& (2147483647 : Int32)) % (5 : Int32))), .unset, .unset] [(.ref a855), (.ref a838), (.ref a838)] B_ := fun t_ hh => k152 t_ (st1422 t_ hh)
          clear k152 st1422 X1402 e1403 cl1409 Ar1410 q1411 S1412 Ng1413 H1414 Gf1415 hin1416 W1421 K1407 V1408 N1406
          have k154 : own_J p e below T1417 m 361 #[.val (.int av), .val (.int bv), .val (.int cv), .val (.int dv), .val (.int mo), .val (.int chp), .val (.int chq), .val (.int chr), .val (.int chs), .val (.int ((mo &&& (2147483647 : Int32)) % (5 : Int32))), .unset, .unset] [(.int chq), (.int (33 : Int32)), (.ref a855), (.ref a855), (.ref a838), (.ref a838)] B_ := fun t_ hh => k153 t_ (by
            refine XS.dup X1419.here hx rfl (hb hby at_356) rfl rfl ?_
            refine XS.bipush X1419.here hx rfl (hb hby at_357) ?_
            refine XS.iload X1419.here hx rfl (hb hby at_359) rfl ?_
            exact hh)
          clear k153
          obtain ⟨cl1426, Ar1427, q1428, S1429, Ng1430, H1431, Gf1432⟩ := id V1425
          have hin1433 := inb_of (j := (33 : Int32)) S1429 (by decide)
          obtain ⟨T1434, h1435, X1436, e1437, W1438, st1439⟩ := stC X1419 hx hZ e1420 Ar1427 (j := (33 : Int32)) hin1433 (g := (mkF m 361 #[.val (.int av), .val (.int bv), .val (.int cv), .val (.int dv), .val (.int mo), .val (.int chp), .val (.int chq), .val (.int chr), .val (.int chs), .val (.int ((mo &&& (2147483647 : Int32)) % (5 : Int32))), .unset, .unset] [(.int chq), (.int (33 : Int32)), (.ref a855), (.ref a855), (.ref a838), (.ref a838)])) rfl rfl (hb hby at_361)
          have N1440 := Fr.snoc X1436 N1423 G857
          have K1441 : Keep h847 h1435 [a855] := K1424.wr W1438 own_m0
          have V1442 := Arv.set Ar1427 q1428 S1429 Ng1430 H1431 Gf1432 (v := (.int (nar .char chq))) (fits_nar_char _) W1438 33 rfl (own_lt rfl)
          have k155 : own_J p e below T1434 m 362 #[.val (.int av), .val (.int bv), .val (.int cv), .val (.int dv), .val (.int mo), .val (.int chp), .val (.int chq), .val (.int chr), .val (.int chs), .val (.int ((mo &&& (2147483647 : Int32)) % (5 : Int32))), .unset, .unset] [(.ref a855), (.ref a838), (.ref a838)] B_ := fun t_ hh => k154 t_ (st1439 t_ hh)
          clear k154 st1439 X1419 e1420 cl1426 Ar1427 q1428 S1429 Ng1430 H1431 Gf1432 hin1433 W1438 K1424 V1425 N1423
          have k156 : own_J p e below T1434 m 367 #[.val (.int av), .val (.int bv), .val (.int cv), .val (.int dv), .val (.int mo), .val (.int chp), .val (.int chq), .val (.int chr), .val (.int chs), .val (.int ((mo &&& (2147483647 : Int32)) % (5 : Int32))), .unset, .unset] [(.int chr), (.int (34 : Int32)), (.ref a855), (.ref a855), (.ref a838), (.ref a838)] B_ := fun t_ hh => k155 t_ (by
            refine XS.dup X1436.here hx rfl (hb hby at_362) rfl rfl ?_
            refine XS.bipush X1436.here hx rfl (hb hby at_363) ?_
            refine XS.iload X1436.here hx rfl (hb hby at_365) rfl ?_
            exact hh)
          clear k155
          obtain ⟨cl1443, Ar1444, q1445, S1446, Ng1447, H1448, Gf1449⟩ := id V1442
          have hin1450 := inb_of (j := (34 : Int32)) S1446 (by decide)
          obtain ⟨T1451, h1452, X1453, e1454, W1455, st1456⟩ := stC X1436 hx hZ e1437 Ar1444 (j := (34 : Int32)) hin1450 (g := (mkF m 367 #[.val (.int av), .val (.int bv), .val (.int cv), .val (.int dv), .val (.int mo), .val (.int chp), .val (.int chq), .val (.int chr), .val (.int chs), .val (.int ((mo &&& (2147483647 : Int32)) % (5 : Int32))), .unset, .unset] [(.int chr), (.int (34 : Int32)), (.ref a855), (.ref a855), (.ref a838), (.ref a838)])) rfl rfl (hb hby at_367)
          have N1457 := Fr.snoc X1453 N1440 G857
          have K1458 : Keep h847 h1452 [a855] := K1441.wr W1455 own_m0
          have V1459 := Arv.set Ar1444 q1445 S1446 Ng1447 H1448 Gf1449 (v := (.int (nar .char chr))) (fits_nar_char _) W1455 34 rfl (own_lt rfl)
          have k157 : own_J p e below T1451 m 368 #[.val (.int av), .val (.int bv), .val (.int cv), .val (.int dv), .val (.int mo), .val (.int chp), .val (.int chq), .val (.int chr), .val (.int chs), .val (.int ((mo &&& (2147483647 : Int32)) % (5 : Int32))), .unset, .unset] [(.ref a855), (.ref a838), (.ref a838)] B_ := fun t_ hh => k156 t_ (st1456 t_ hh)
          clear k156 st1456 X1436 e1437 cl1443 Ar1444 q1445 S1446 Ng1447 H1448 Gf1449 hin1450 W1455 K1441 V1442 N1440
          have k158 : own_J p e below T1451 m 373 #[.val (.int av), .val (.int bv), .val (.int cv), .val (.int dv), .val (.int mo), .val (.int chp), .val (.int chq), .val (.int chr), .val (.int chs), .val (.int ((mo &&& (2147483647 : Int32)) % (5 : Int32))), .unset, .unset] [(.int chs), (.int (35 : Int32)), (.ref a855), (.ref a855), (.ref a838), (.ref a838)] B_ := fun t_ hh => k157 t_ (by
            refine XS.dup X1453.here hx rfl (hb hby at_368) rfl rfl ?_
            refine XS.bipush X1453.here hx rfl (hb hby at_369) ?_
            refine XS.iload X1453.here hx rfl (hb hby at_371) rfl ?_
            exact hh)
          clear k157
          obtain ⟨cl1460, Ar1461, q1462, S1463, Ng1464, H1465, Gf1466⟩ := id V1459
          have hin1467 := inb_of (j := (35 : Int32)) S1463 (by decide)
          obtain ⟨T1468, h1469, X1470, e1471, W1472, st1473⟩ := stC X1453 hx hZ e1454 Ar1461 (j := (35 : Int32)) hin1467 (g := (mkF m 373 #[.val (.int av), .val (.int bv), .val (.int cv), .val (.int dv), .val (.int mo), .val (.int chp), .val (.int chq), .val (.int chr), .val (.int chs), .val (.int ((mo &&& (2147483647 : Int32)) % (5 : Int32))), .unset, .unset] [(.int chs), (.int (35 : Int32)), (.ref a855), (.ref a855), (.ref a838), (.ref a838)])) rfl rfl (hb hby at_373)
          have N1474 := Fr.snoc X1470 N1457 G857
          have K1475 : Keep h847 h1469 [a855] := K1458.wr W1472 own_m0
          have V1476 : Arv Z h1469 a855 kA848 .char (64 : Int32) [(.int (nar .char chp)), (.int (nar .char chq)), (.int (nar .char chr)), (.int (nar .char chs)), (.int (nar .char chp)), (.int (nar .char chq)), (.int (nar .char chr)), (.int (nar .char chs)), (.int (nar .char chp)), (.int (nar .char chq)), (.int (nar .char chr)), (.int (nar .char chs)), (.int (nar .char chp)), (.int (nar .char chq)), (.int (nar .char chr)), (.int (nar .char chs)), (.int (nar .char chp)), (.int (nar .char chq)), (.int (nar .char chr)), (.int (nar .char chs)), (.int (nar .char chp)), (.int (nar .char chq)), (.int (nar .char chr)), (.int (nar .char chs)), (.int (nar .char chp)), (.int (nar .char chq)), (.int (nar .char chr)), (.int (nar .char chs)), (.int (nar .char chp)), (.int (nar .char chq)), (.int (nar .char chr)), (.int (nar .char chs)), (.int (nar .char chp)), (.int (nar .char chq)), (.int (nar .char chr)), (.int (nar .char chs)), (.int (0 : Int32)), (.int (0 : Int32)), (.int (0 : Int32)), (.int (0 : Int32)), (.int (0 : Int32)), (.int (0 : Int32)), (.int (0 : Int32)), (.int (0 : Int32)), (.int (0 : Int32)), (.int (0 : Int32)), (.int (0 : Int32)), (.int (0 : Int32)), (.int (0 : Int32)), (.int (0 : Int32)), (.int (0 : Int32)), (.int (0 : Int32)), (.int (0 : Int32)), (.int (0 : Int32)), (.int (0 : Int32)), (.int (0 : Int32)), (.int (0 : Int32)), (.int (0 : Int32)), (.int (0 : Int32)), (.int (0 : Int32)), (.int (0 : Int32)), (.int (0 : Int32)), (.int (0 : Int32)), (.int (0 : Int32))] (.int (0 : Int32)) := Arv.set Ar1461 q1462 S1463 Ng1464 H1465 Gf1466 (fits_nar_char _) W1472 35 rfl (own_lt rfl)
          have k159 : own_J p e below T1468 m 374 #[.val (.int av), .val (.int bv), .val (.int cv), .val (.int dv), .val (.int mo), .val (.int chp), .val (.int chq), .val (.int chr), .val (.int chs), .val (.int ((mo &&& (2147483647 : Int32)) % (5 : Int32))), .unset, .unset] [(.ref a855), (.ref a838), (.ref a838)] B_ := fun t_ hh => k158 t_ (st1473 t_ hh)
          clear k158 st1473 X1453 e1454 cl1460 Ar1461 q1462 S1463 Ng1464 H1465 Gf1466 hin1467 W1472 K1458 V1459 N1457
          have k160 : own_J p e below T1468 m 379 #[.val (.int av), .val (.int bv), .val (.int cv), .val (.int dv), .val (.int mo), .val (.int chp), .val (.int chq), .val (.int chr), .val (.int chs), .val (.int ((mo &&& (2147483647 : Int32)) % (5 : Int32))), .unset, .unset] [(.int chp), (.int (36 : Int32)), (.ref a855), (.ref a855), (.ref a838), (.ref a838)] B_ := fun t_ hh => k159 t_ (by
            refine XS.dup X1470.here hx rfl (hb hby at_374) rfl rfl ?_
            refine XS.bipush X1470.here hx rfl (hb hby at_375) ?_
            refine XS.iload X1470.here hx rfl (hb hby at_377) rfl ?_
            exact hh)
          clear k159
          obtain ⟨cl1477, Ar1478, q1479, S1480, Ng1481, H1482, Gf1483⟩ := id V1476
          have hin1484 := inb_of (j := (36 : Int32)) S1480 (by decide)
          obtain ⟨T1485, h1486, X1487, e1488, W1489, st1490⟩ := stC X1470 hx hZ e1471 Ar1478 (j := (36 : Int32)) hin1484 (g := (mkF m 379 #[.val (.int av), .val (.int bv), .val (.int cv), .val (.int dv), .val (.int mo), .val (.int chp), .val (.int chq), .val (.int chr), .val (.int chs), .val (.int ((mo &&& (2147483647 : Int32)) % (5 : Int32))), .unset, .unset] [(.int chp), (.int (36 : Int32)), (.ref a855), (.ref a855), (.ref a838), (.ref a838)])) rfl rfl (hb hby at_379)
          have N1491 := Fr.snoc X1487 N1474 G857
          have K1492 : Keep h847 h1486 [a855] := K1475.wr W1489 own_m0
          have V1493 := Arv.set Ar1478 q1479 S1480 Ng1481 H1482 Gf1483 (v := (.int (nar .char chp))) (fits_nar_char _) W1489 36 rfl (own_lt rfl)
          have k161 : own_J p e below T1485 m 380 #[.val (.int av), .val (.int bv), .val (.int cv), .val (.int dv), .val (.int mo), .val (.int chp), .val (.int chq), .val (.int chr), .val (.int chs), .val (.int ((mo &&& (2147483647 : Int32)) % (5 : Int32))), .unset, .unset] [(.ref a855), (.ref a838), (.ref a838)] B_ := fun t_ hh => k160 t_ (st1490 t_ hh)
          clear k160 st1490 X1470 e1471 cl1477 Ar1478 q1479 S1480 Ng1481 H1482 Gf1483 hin1484 W1489 K1475 V1476 N1474
          have k162 : own_J p e below T1485 m 385 #[.val (.int av), .val (.int bv), .val (.int cv), .val (.int dv), .val (.int mo), .val (.int chp), .val (.int chq), .val (.int chr), .val (.int chs), .val (.int ((mo &&& (2147483647 : Int32)) % (5 : Int32))), .unset, .unset] [(.int chq), (.int (37 : Int32)), (.ref a855), (.ref a855), (.ref a838), (.ref a838)] B_ := fun t_ hh => k161 t_ (by
            refine XS.dup X1487.here hx rfl (hb hby at_380) rfl rfl ?_
            refine XS.bipush X1487.here hx rfl (hb hby at_381) ?_
            refine XS.iload X1487.here hx rfl (hb hby at_383) rfl ?_
            exact hh)
          clear k161
          obtain ⟨cl1494, Ar1495, q1496, S1497, Ng1498, H1499, Gf1500⟩ := id V1493
          have hin1501 := inb_of (j := (37 : Int32)) S1497 (by decide)
          obtain ⟨T1502, h1503, X1504, e1505, W1506, st1507⟩ := stC X1487 hx hZ e1488 Ar1495 (j := (37 : Int32)) hin1501 (g := (mkF m 385 #[.val (.int av), .val (.int bv), .val (.int cv), .val (.int dv), .val (.int mo), .val (.int chp), .val (.int chq), .val (.int chr), .val (.int chs), .val (.int ((mo &&& (2147483647 : Int32)) % (5 : Int32))), .unset, .unset] [(.int chq), (.int (37 : Int32)), (.ref a855), (.ref a855), (.ref a838), (.ref a838)])) rfl rfl (hb hby at_385)
          have N1508 := Fr.snoc X1504 N1491 G857
          have K1509 : Keep h847 h1503 [a855] := K1492.wr W1506 own_m0
          have V1510 := Arv.set Ar1495 q1496 S1497 Ng1498 H1499 Gf1500 (v := (.int (nar .char chq))) (fits_nar_char _) W1506 37 rfl (own_lt rfl)
          have k163 : own_J p e below T1502 m 386 #[.val (.int av), .val (.int bv), .val (.int cv), .val (.int dv), .val (.int mo), .val (.int chp), .val (.int chq), .val (.int chr), .val (.int chs), .val (.int ((mo &&& (2147483647 : Int32)) % (5 : Int32))), .unset, .unset] [(.ref a855), (.ref a838), (.ref a838)] B_ := fun t_ hh => k162 t_ (st1507 t_ hh)
          clear k162 st1507 X1487 e1488 cl1494 Ar1495 q1496 S1497 Ng1498 H1499 Gf1500 hin1501 W1506 K1492 V1493 N1491
          have k164 : own_J p e below T1502 m 391 #[.val (.int av), .val (.int bv), .val (.int cv), .val (.int dv), .val (.int mo), .val (.int chp), .val (.int chq), .val (.int chr), .val (.int chs), .val (.int ((mo &&& (2147483647 : Int32)) % (5 : Int32))), .unset, .unset] [(.int chr), (.int (38 : Int32)), (.ref a855), (.ref a855), (.ref a838), (.ref a838)] B_ := fun t_ hh => k163 t_ (by
            refine XS.dup X1504.here hx rfl (hb hby at_386) rfl rfl ?_
            refine XS.bipush X1504.here hx rfl (hb hby at_387) ?_
            refine XS.iload X1504.here hx rfl (hb hby at_389) rfl ?_
            exact hh)
          clear k163
          obtain ⟨cl1511, Ar1512, q1513, S1514, Ng1515, H1516, Gf1517⟩ := id V1510
          have hin1518 := inb_of (j := (38 : Int32)) S1514 (by decide)
          obtain ⟨T1519, h1520, X1521, e1522, W1523, st1524⟩ := stC X1504 hx hZ e1505 Ar1512 (j := (38 : Int32)) hin1518 (g := (mkF m 391 #[.val (.int av), .val (.int bv), .val (.int cv), .val (.int dv), .val (.int mo), .val (.int chp), .val (.int chq), .val (.int chr), .val (.int chs), .val (.int ((mo &&& (2147483647 : Int32)) % (5 : Int32))), .unset, .unset] [(.int chr), (.int (38 : Int32)), (.ref a855), (.ref a855), (.ref a838), (.ref a838)])) rfl rfl (hb hby at_391)
          have N1525 := Fr.snoc X1521 N1508 G857
          have K1526 : Keep h847 h1520 [a855] := K1509.wr W1523 own_m0
          have V1527 : Arv Z h1520 a855 kA848 .char (64 : Int32) [(.int (nar .char chp)), (.int (nar .char chq)), (.int (nar .char chr)), (.int (nar .char chs)), (.int (nar .char chp)), (.int (nar .char chq)), (.int (nar .char chr)), (.int (nar .char chs)), (.int (nar .char chp)), (.int (nar .char chq)), (.int (nar .char chr)), (.int (nar .char chs)), (.int (nar .char chp)), (.int (nar .char chq)), (.int (nar .char chr)), (.int (nar .char chs)), (.int (nar .char chp)), (.int (nar .char chq)), (.int (nar .char chr)), (.int (nar .char chs)), (.int (nar .char chp)), (.int (nar .char chq)), (.int (nar .char chr)), (.int (nar .char chs)), (.int (nar .char chp)), (.int (nar .char chq)), (.int (nar .char chr)), (.int (nar .char chs)), (.int (nar .char chp)), (.int (nar .char chq)), (.int (nar .char chr)), (.int (nar .char chs)), (.int (nar .char chp)), (.int (nar .char chq)), (.int (nar .char chr)), (.int (nar .char chs)), (.int (nar .char chp)), (.int (nar .char chq)), (.int (nar .char chr)), (.int (0 : Int32)), (.int (0 : Int32)), (.int (0 : Int32)), (.int (0 : Int32)), (.int (0 : Int32)), (.int (0 : Int32)), (.int (0 : Int32)), (.int (0 : Int32)), (.int (0 : Int32)), (.int (0 : Int32)), (.int (0 : Int32)), (.int (0 : Int32)), (.int (0 : Int32)), (.int (0 : Int32)), (.int (0 : Int32)), (.int (0 : Int32)), (.int (0 : Int32)), (.int (0 : Int32)), (.int (0 : Int32)), (.int (0 : Int32)), (.int (0 : Int32)), (.int (0 : Int32)), (.int (0 : Int32)), (.int (0 : Int32)), (.int (0 : Int32))] (.int (0 : Int32)) := Arv.set Ar1512 q1513 S1514 Ng1515 H1516 Gf1517 (fits_nar_char _) W1523 38 rfl (own_lt rfl)
          have k165 : own_J p e below T1519 m 392 #[.val (.int av), .val (.int bv), .val (.int cv), .val (.int dv), .val (.int mo), .val (.int chp), .val (.int chq), .val (.int chr), .val (.int chs), .val (.int ((mo &&& (2147483647 : Int32)) % (5 : Int32))), .unset, .unset] [(.ref a855), (.ref a838), (.ref a838)] B_ := fun t_ hh => k164 t_ (st1524 t_ hh)
          clear k164 st1524 X1504 e1505 cl1511 Ar1512 q1513 S1514 Ng1515 H1516 Gf1517 hin1518 W1523 K1509 V1510 N1508
          have k166 : own_J p e below T1519 m 397 #[.val (.int av), .val (.int bv), .val (.int cv), .val (.int dv), .val (.int mo), .val (.int chp), .val (.int chq), .val (.int chr), .val (.int chs), .val (.int ((mo &&& (2147483647 : Int32)) % (5 : Int32))), .unset, .unset] [(.int chs), (.int (39 : Int32)), (.ref a855), (.ref a855), (.ref a838), (.ref a838)] B_ := fun t_ hh => k165 t_ (by
            refine XS.dup X1521.here hx rfl (hb hby at_392) rfl rfl ?_
            refine XS.bipush X1521.here hx rfl (hb hby at_393) ?_
            refine XS.iload X1521.here hx rfl (hb hby at_395) rfl ?_
            exact hh)
          clear k165
          obtain ⟨cl1528, Ar1529, q1530, S1531, Ng1532, H1533, Gf1534⟩ := id V1527
          have hin1535 := inb_of (j := (39 : Int32)) S1531 (by decide)
          obtain ⟨T1536, h1537, X1538, e1539, W1540, st1541⟩ := stC X1521 hx hZ e1522 Ar1529 (j := (39 : Int32)) hin1535 (g := (mkF m 397 #[.val (.int av), .val (.int bv), .val (.int cv), .val (.int dv), .val (.int mo), .val (.int chp), .val (.int chq), .val (.int chr), .val (.int chs), .val (.int ((mo &&& (2147483647 : Int32)) % (5 : Int32))), .unset, .unset] [(.int chs), (.int (39 : Int32)), (.ref a855), (.ref a855), (.ref a838), (.ref a838)])) rfl rfl (hb hby at_397)
          have N1542 := Fr.snoc X1538 N1525 G857
          have K1543 : Keep h847 h1537 [a855] := K1526.wr W1540 own_m0
          have V1544 := Arv.set Ar1529 q1530 S1531 Ng1532 H1533 Gf1534 (v := (.int (nar .char chs))) (fits_nar_char _) W1540 39 rfl (own_lt rfl)
          have k167 : own_J p e below T1536 m 398 #[.val (.int av), .val (.int bv), .val (.int cv), .val (.int dv), .val (.int mo), .val (.int chp), .val (.int chq), .val (.int chr), .val (.int chs), .val (.int ((mo &&& (2147483647 : Int32)) % (5 : Int32))), .unset, .unset] [(.ref a855), (.ref a838), (.ref a838)] B_ := fun t_ hh => k166 t_ (st1541 t_ hh)
          clear k166 st1541 X1521 e1522 cl1528 Ar1529 q1530 S1531 Ng1532 H1533 Gf1534 hin1535 W1540 K1526 V1527 N1525
          have k168 : own_J p e below T1536 m 403 #[.val (.int av), .val (.int bv), .val (.int cv), .val (.int dv), .val (.int mo), .val (.int chp), .val (.int chq), .val (.int chr), .val (.int chs), .val (.int ((mo &&& (2147483647 : Int32)) % (5 : Int32))), .unset, .unset] [(.int chp), (.int (40 : Int32)), (.ref a855), (.ref a855), (.ref a838), (.ref a838)] B_ := fun t_ hh => k167 t_ (by
            refine XS.dup X1538.here hx rfl (hb hby at_398) rfl rfl ?_
            refine XS.bipush X1538.here hx rfl (hb hby at_399) ?_
            refine XS.iload X1538.here hx rfl (hb hby at_401) rfl ?_
            exact hh)
          clear k167
          obtain ⟨cl1545, Ar1546, q1547, S1548, Ng1549, H1550, Gf1551⟩ := id V1544
          have hin1552 := inb_of (j := (40 : Int32)) S1548 (by decide)
          obtain ⟨T1553, h1554, X1555, e1556, W1557, st1558⟩ := stC X1538 hx hZ e1539 Ar1546 (j := (40 : Int32)) hin1552 (g := (mkF m 403 #[.val (.int av), .val (.int bv), .val (.int cv), .val (.int dv), .val (.int mo), .val (.int chp), .val (.int chq), .val (.int chr), .val (.int chs), .val (.int ((mo &&& (2147483647 : Int32)) % (5 : Int32))), .unset, .unset] [(.int chp), (.int (40 : Int32)), (.ref a855), (.ref a855), (.ref a838), (.ref a838)])) rfl rfl (hb hby at_403)
          have N1559 := Fr.snoc X1555 N1542 G857
          have K1560 : Keep h847 h1554 [a855] := K1543.wr W1557 own_m0
          have V1561 := Arv.set Ar1546 q1547 S1548 Ng1549 H1550 Gf1551 (v := (.int (nar .char chp))) (fits_nar_char _) W1557 40 rfl (own_lt rfl)
          have k169 : own_J p e below T1553 m 404 #[.val (.int av), .val (.int bv), .val (.int cv), .val (.int dv), .val (.int mo), .val (.int chp), .val (.int chq), .val (.int chr), .val (.int chs), .val (.int ((mo &&& (2147483647 : Int32)) % (5 : Int32))), .unset, .unset] [(.ref a855), (.ref a838), (.ref a838)] B_ := fun t_ hh => k168 t_ (st1558 t_ hh)
          clear k168 st1558 X1538 e1539 cl1545 Ar1546 q1547 S1548 Ng1549 H1550 Gf1551 hin1552 W1557 K1543 V1544 N1542
          have k170 : own_J p e below T1553 m 409 #[.val (.int av), .val (.int bv), .val (.int cv), .val (.int dv), .val (.int mo), .val (.int chp), .val (.int chq), .val (.int chr), .val (.int chs), .val (.int ((mo &&& (2147483647 : Int32)) % (5 : Int32))), .unset, .unset] [(.int chq), (.int (41 : Int32)), (.ref a855), (.ref a855), (.ref a838), (.ref a838)] B_ := fun t_ hh => k169 t_ (by
            refine XS.dup X1555.here hx rfl (hb hby at_404) rfl rfl ?_
            refine XS.bipush X1555.here hx rfl (hb hby at_405) ?_
            refine XS.iload X1555.here hx rfl (hb hby at_407) rfl ?_
            exact hh)
          clear k169
          obtain ⟨cl1562, Ar1563, q1564, S1565, Ng1566, H1567, Gf1568⟩ := id V1561
          have hin1569 := inb_of (j := (41 : Int32)) S1565 (by decide)
          obtain ⟨T1570, h1571, X1572, e1573, W1574, st1575⟩ := stC X1555 hx hZ e1556 Ar1563 (j := (41 : Int32)) hin1569 (g := (mkF m 409 #[.val (.int av), .val (.int bv), .val (.int cv), .val (.int dv), .val (.int mo), .val (.int chp), .val (.int chq), .val (.int chr), .val (.int chs), .val (.int ((mo &&& (2147483647 : Int32)) % (5 : Int32))), .unset, .unset] [(.int chq), (.int (41 : Int32)), (.ref a855), (.ref a855), (.ref a838), (.ref a838)])) rfl rfl (hb hby at_409)
          have N1576 := Fr.snoc X1572 N1559 G857
          have K1577 : Keep h847 h1571 [a855] := K1560.wr W1574 own_m0
          have V1578 : Arv Z h1571 a855 kA848 .char (64 : Int32) [(.int (nar .char chp)), (.int (nar .char chq)), (.int (nar .char chr)), (.int (nar .char chs)), (.int (nar .char chp)), (.int (nar .char chq)), (.int (nar .char chr)), (.int (nar .char chs)), (.int (nar .char chp)), (.int (nar .char chq)), (.int (nar .char chr)), (.int (nar .char chs)), (.int (nar .char chp)), (.int (nar .char chq)), (.int (nar .char chr)), (.int (nar .char chs)), (.int (nar .char chp)), (.int (nar .char chq)), (.int (nar .char chr)), (.int (nar .char chs)), (.int (nar .char chp)), (.int (nar .char chq)), (.int (nar .char chr)), (.int (nar .char chs)), (.int (nar .char chp)), (.int (nar .char chq)), (.int (nar .char chr)), (.int (nar .char chs)), (.int (nar .char chp)), (.int (nar .char chq)), (.int (nar .char chr)), (.int (nar .char chs)), (.int (nar .char chp)), (.int (nar .char chq)), (.int (nar .char chr)), (.int (nar .char chs)), (.int (nar .char chp)), (.int (nar .char chq)), (.int (nar .char chr)), (.int (nar .char chs)), (.int (nar .char chp)), (.int (nar .char chq)), (.int (0 : Int32)), (.int (0 : Int32)), (.int (0 : Int32)), (.int (0 : Int32)), (.int (0 : Int32)), (.int (0 : Int32)), (.int (0 : Int32)), (.int (0 : Int32)), (.int (0 : Int32)), (.int (0 : Int32)), (.int (0 : Int32)), (.int (0 : Int32)), (.int (0 : Int32)), (.int (0 : Int32)), (.int (0 : Int32)), (.int (0 : Int32)), (.int (0 : Int32)), (.int (0 : Int32)), (.int (0 : Int32)), (.int (0 : Int32)), (.int (0 : Int32)), (.int (0 : Int32))] (.int (0 : Int32)) := Arv.set Ar1563 q1564 S1565 Ng1566 H1567 Gf1568 (fits_nar_char _) W1574 41 rfl (own_lt rfl)
          have k171 : own_J p e below T1570 m 410 #[.val (.int av), .val (.int bv), .val (.int cv), .val (.int dv), .val (.int mo), .val (.int chp), .val (.int chq), .val (.int chr), .val (.int chs), .val (.int ((mo &&& (2147483647 : Int32)) % (5 : Int32))), .unset, .unset] [(.ref a855), (.ref a838), (.ref a838)] B_ := fun t_ hh => k170 t_ (st1575 t_ hh)
          clear k170 st1575 X1555 e1556 cl1562 Ar1563 q1564 S1565 Ng1566 H1567 Gf1568 hin1569 W1574 K1560 V1561 N1559
          have k172 : own_J p e below T1570 m 415 #[.val (.int av), .val (.int bv), .val (.int cv), .val (.int dv), .val (.int mo), .val (.int chp), .val (.int chq), .val (.int chr), .val (.int chs), .val (.int ((mo &&& (2147483647 : Int32)) % (5 : Int32))), .unset, .unset] [(.int chr), (.int (42 : Int32)), (.ref a855), (.ref a855), (.ref a838), (.ref a838)] B_ := fun t_ hh => k171 t_ (by
            refine XS.dup X1572.here hx rfl (hb hby at_410) rfl rfl ?_
            refine XS.bipush X1572.here hx rfl (hb hby at_411) ?_
            refine XS.iload X1572.here hx rfl (hb hby at_413) rfl ?_
            exact hh)
          clear k171
          obtain ⟨cl1579, Ar1580, q1581, S1582, Ng1583, H1584, Gf1585⟩ := id V1578
          have hin1586 := inb_of (j := (42 : Int32)) S1582 (by decide)
          obtain ⟨T1587, h1588, X1589, e1590, W1591, st1592⟩ := stC X1572 hx hZ e1573 Ar1580 (j := (42 : Int32)) hin1586 (g := (mkF m 415 #[.val (.int av), .val (.int bv), .val (.int cv), .val (.int dv), .val (.int mo), .val (.int chp), .val (.int chq), .val (.int chr), .val (.int chs), .val (.int ((mo &&& (2147483647 : Int32)) % (5 : Int32))), .unset, .unset] [(.int chr), (.int (42 : Int32)), (.ref a855), (.ref a855), (.ref a838), (.ref a838)])) rfl rfl (hb hby at_415)
          have N1593 := Fr.snoc X1589 N1576 G857
          have K1594 : Keep h847 h1588 [a855] := K1577.wr W1591 own_m0
          have V1595 := Arv.set Ar1580 q1581 S1582 Ng1583 H1584 Gf1585 (v := (.int (nar .char chr))) (fits_nar_char _) W1591 42 rfl (own_lt rfl)
          have k173 : own_J p e below T1587 m 416 #[.val (.int av), .val (.int bv), .val (.int cv), .val (.int dv), .val (.int mo), .val (.int chp), .val (.int chq), .val (.int chr), .val (.int chs), .val (.int ((mo &&& (2147483647 : Int32)) % (5 : Int32))), .unset, .unset] [(.ref a855), (.ref a838), (.ref a838)] B_ := fun t_ hh => k172 t_ (st1592 t_ hh)
          clear k172 st1592 X1572 e1573 cl1579 Ar1580 q1581 S1582 Ng1583 H1584 Gf1585 hin1586 W1591 K1577 V1578 N1576
          have k174 : own_J p e below T1587 m 421 #[.val (.int av), .val (.int bv), .val (.int cv), .val (.int dv), .val (.int mo), .val (.int chp), .val (.int chq), .val (.int chr), .val (.int chs), .val (.int ((mo &&& (2147483647 : Int32)) % (5 : Int32))), .unset, .unset] [(.int chs), (.int (43 : Int32)), (.ref a855), (.ref a855), (.ref a838), (.ref a838)] B_ := fun t_ hh => k173 t_ (by
            refine XS.dup X1589.here hx rfl (hb hby at_416) rfl rfl ?_
            refine XS.bipush X1589.here hx rfl (hb hby at_417) ?_
            refine XS.iload X1589.here hx rfl (hb hby at_419) rfl ?_
            exact hh)
          clear k173
          obtain ⟨cl1596, Ar1597, q1598, S1599, Ng1600, H1601, Gf1602⟩ := id V1595
          have hin1603 := inb_of (j := (43 : Int32)) S1599 (by decide)
          obtain ⟨T1604, h1605, X1606, e1607, W1608, st1609⟩ := stC X1589 hx hZ e1590 Ar1597 (j := (43 : Int32)) hin1603 (g := (mkF m 421 #[.val (.int av), .val (.int bv), .val (.int cv), .val (.int dv), .val (.int mo), .val (.int chp), .val (.int chq), .val (.int chr), .val (.int chs), .val (.int ((mo &&& (2147483647 : Int32)) % (5 : Int32))), .unset, .unset] [(.int chs), (.int (43 : Int32)), (.ref a855), (.ref a855), (.ref a838), (.ref a838)])) rfl rfl (hb hby at_421)
          have N1610 := Fr.snoc X1606 N1593 G857
          have K1611 : Keep h847 h1605 [a855] := K1594.wr W1608 own_m0
          have V1612 := Arv.set Ar1597 q1598 S1599 Ng1600 H1601 Gf1602 (v := (.int (nar .char chs))) (fits_nar_char _) W1608 43 rfl (own_lt rfl)
          have k175 : own_J p e below T1604 m 422 #[.val (.int av), .val (.int bv), .val (.int cv), .val (.int dv), .val (.int mo), .val (.int chp), .val (.int chq), .val (.int chr), .val (.int chs), .val (.int ((mo &&& (2147483647 : Int32)) % (5 : Int32))), .unset, .unset] [(.ref a855), (.ref a838), (.ref a838)] B_ := fun t_ hh => k174 t_ (st1609 t_ hh)
          clear k174 st1609 X1589 e1590 cl1596 Ar1597 q1598 S1599 Ng1600 H1601 Gf1602 hin1603 W1608 K1594 V1595 N1593
          have k176 : own_J p e below T1604 m 427 #[.val (.int av), .val (.int bv), .val (.int cv), .val (.int dv), .val (.int mo), .val (.int chp), .val (.int chq), .val (.int chr), .val (.int chs), .val (.int ((mo &&& (2147483647 : Int32)) % (5 : Int32))), .unset, .unset] [(.int chp), (.int (44 : Int32)), (.ref a855), (.ref a855), (.ref a838), (.ref a838)] B_ := fun t_ hh => k175 t_ (by
            refine XS.dup X1606.here hx rfl (hb hby at_422) rfl rfl ?_
            refine XS.bipush X1606.here hx rfl (hb hby at_423) ?_
            refine XS.iload X1606.here hx rfl (hb hby at_425) rfl ?_
            exact hh)
          clear k175
          obtain ⟨cl1613, Ar1614, q1615, S1616, Ng1617, H1618, Gf1619⟩ := id V1612
          have hin1620 := inb_of (j := (44 : Int32)) S1616 (by decide)
          obtain ⟨T1621, h1622, X1623, e1624, W1625, st1626⟩ := stC X1606 hx hZ e1607 Ar1614 (j := (44 : Int32)) hin1620 (g := (mkF m 427 #[.val (.int av), .val (.int bv), .val (.int cv), .val (.int dv), .val (.int mo), .val (.int chp), .val (.int chq), .val (.int chr), .val (.int chs), .val (.int ((mo &&& (2147483647 : Int32)) % (5 : Int32))), .unset, .unset] [(.int chp), (.int (44 : Int32)), (.ref a855), (.ref a855), (.ref a838), (.ref a838)])) rfl rfl (hb hby at_427)
          have N1627 := Fr.snoc X1623 N1610 G857
          have K1628 : Keep h847 h1622 [a855] := K1611.wr W1625 own_m0
          have V1629 : Arv Z h1622 a855 kA848 .char (64 : Int32) [(.int (nar .char chp)), (.int (nar .char chq)), (.int (nar .char chr)), (.int (nar .char chs)), (.int (nar .char chp)), (.int (nar .char chq)), (.int (nar .char chr)), (.int (nar .char chs)), (.int (nar .char chp)), (.int (nar .char chq)), (.int (nar .char chr)), (.int (nar .char chs)), (.int (nar .char chp)), (.int (nar .char chq)), (.int (nar .char chr)), (.int (nar .char chs)), (.int (nar .char chp)), (.int (nar .char chq)), (.int (nar .char chr)), (.int (nar .char chs)), (.int (nar .char chp)), (.int (nar .char chq)), (.int (nar .char chr)), (.int (nar .char chs)), (.int (nar .char chp)), (.int (nar .char chq)), (.int (nar .char chr)), (.int (nar .char chs)), (.int (nar .char chp)), (.int (nar .char chq)), (.int (nar .char chr)), (.int (nar .char chs)), (.int (nar .char chp)), (.int (nar .char chq)), (.int (nar .char chr)), (.int (nar .char chs)), (.int (nar .char chp)), (.int (nar .char chq)), (.int (nar .char chr)), (.int (nar .char chs)), (.int (nar .char chp)), (.int (nar .char chq)), (.int (nar .char chr)), (.int (nar .char chs)), (.int (nar .char chp)), (.int (0 : Int32)), (.int (0 : Int32)), (.int (0 : Int32)), (.int (0 : Int32)), (.int (0 : Int32)), (.int (0 : Int32)), (.int (0 : Int32)), (.int (0 : Int32)), (.int (0 : Int32)), (.int (0 : Int32)), (.int (0 : Int32)), (.int (0 : Int32)), (.int (0 : Int32)), (.int (0 : Int32)), (.int (0 : Int32)), (.int (0 : Int32)), (.int (0 : Int32)), (.int (0 : Int32)), (.int (0 : Int32))] (.int (0 : Int32)) := Arv.set Ar1614 q1615 S1616 Ng1617 H1618 Gf1619 (fits_nar_char _) W1625 44 rfl (own_lt rfl)
          have k177 : own_J p e below T1621 m 428 #[.val (.int av), .val (.int bv), .val (.int cv), .val (.int dv), .val (.int mo), .val (.int chp), .val (.int chq), .val (.int chr), .val (.int chs), .val (.int ((mo &&& (2147483647 : Int32)) % (5 : Int32))), .unset, .unset] [(.ref a855), (.ref a838), (.ref a838)] B_ := fun t_ hh => k176 t_ (st1626 t_ hh)
          clear k176 st1626 X1606 e1607 cl1613 Ar1614 q1615 S1616 Ng1617 H1618 Gf1619 hin1620 W1625 K1611 V1612 N1610
          have k178 : own_J p e below T1621 m 433 #[.val (.int av), .val (.int bv), .val (.int cv), .val (.int dv), .val (.int mo), .val (.int chp), .val (.int chq), .val (.int chr), .val (.int chs), .val (.int ((mo &&& (2147483647 : Int32)) % (5 : Int32))), .unset, .unset] [(.int chq), (.int (45 : Int32)), (.ref a855), (.ref a855), (.ref a838), (.ref a838)] B_ := fun t_ hh => k177 t_ (by
            refine XS.dup X1623.here hx rfl (hb hby at_428) rfl rfl ?_
            refine XS.bipush X1623.here hx rfl (hb hby at_429) ?_
            refine XS.iload X1623.here hx rfl (hb hby at_431) rfl ?_
            exact hh)
          clear k177
          obtain ⟨cl1630, Ar1631, q1632, S1633, Ng1634, H1635, Gf1636⟩ := id V1629
          have hin1637 := inb_of (j := (45 : Int32)) S1633 (by decide)
          obtain ⟨T1638, h1639, X1640, e1641, W1642, st1643⟩ := stC X1623 hx hZ e1624 Ar1631 (j := (45 : Int32)) hin1637 (g := (mkF m 433 #[.val (.int av), .val (.int bv), .val (.int cv), .val (.int dv), .val (.int mo), .val (.int chp), .val (.int chq), .val (.int chr), .val (.int chs), .val (.int ((mo &&& (2147483647 : Int32)) % (5 : Int32))), .unset, .unset] [(.int chq), (.int (45 : Int32)), (.ref a855), (.ref a855), (.ref a838), (.ref a838)])) rfl rfl (hb hby at_433)
          have N1644 := Fr.snoc X1640 N1627 G857
          have K1645 : Keep h847 h1639 [a855] := K1628.wr W1642 own_m0
          have V1646 := Arv.set Ar1631 q1632 S1633 Ng1634 H1635 Gf1636 (v := (.int (nar .char chq))) (fits_nar_char _) W1642 45 rfl (own_lt rfl)
          have k179 : own_J p e below T1638 m 434 #[.val (.int av), .val (.int bv), .val (.int cv), .val (.int dv), .val (.int mo), .val (.int chp), .val (.int chq), .val (.int chr), .val (.int chs), .val (.int ((mo &&& (2147483647 : Int32)) % (5 : Int32))), .unset, .unset] [(.ref a855), (.ref a838), (.ref a838)] B_ := fun t_ hh => k178 t_ (st1643 t_ hh)
          clear k178 st1643 X1623 e1624 cl1630 Ar1631 q1632 S1633 Ng1634 H1635 Gf1636 hin1637 W1642 K1628 V1629 N1627
          have k180 : own_J p e below T1638 m 439 #[.val (.int av), .val (.int bv), .val (.int cv), .val (.int dv), .val (.int mo), .val (.int chp), .val (.int chq), .val (.int chr), .val (.int chs), .val (.int ((mo &&& (2147483647 : Int32)) % (5 : Int32))), .unset, .unset] [(.int chr), (.int (46 : Int32)), (.ref a855), (.ref a855), (.ref a838), (.ref a838)] B_ := fun t_ hh => k179 t_ (by
            refine XS.dup X1640.here hx rfl (hb hby at_434) rfl rfl ?_
            refine XS.bipush X1640.here hx rfl (hb hby at_435) ?_
            refine XS.iload X1640.here hx rfl (hb hby at_437) rfl ?_
            exact hh)
          clear k179
          obtain ⟨cl1647, Ar1648, q1649, S1650, Ng1651, H1652, Gf1653⟩ := id V1646
          have hin1654 := inb_of (j := (46 : Int32)) S1650 (by decide)
          obtain ⟨T1655, h1656, X1657, e1658, W1659, st1660⟩ := stC X1640 hx hZ e1641 Ar1648 (j := (46 : Int32)) hin1654 (g := (mkF m 439 #[.val (.int av), .val (.int bv), .val (.int cv), .val (.int dv), .val (.int mo), .val (.int chp), .val (.int chq), .val (.int chr), .val (.int chs), .val (.int ((mo &&& (2147483647 : Int32)) % (5 : Int32))), .unset, .unset] [(.int chr), (.int (46 : Int32)), (.ref a855), (.ref a855), (.ref a838), (.ref a838)])) rfl rfl (hb hby at_439)
          have N1661 := Fr.snoc X1657 N1644 G857
          have K1662 : Keep h847 h1656 [a855] := K1645.wr W1659 own_m0
          have V1663 := Arv.set Ar1648 q1649 S1650 Ng1651 H1652 Gf1653 (v := (.int (nar .char chr))) (fits_nar_char _) W1659 46 rfl (own_lt rfl)
          have k181 : own_J p e below T1655 m 440 #[.val (.int av), .val (.int bv), .val (.int cv), .val (.int dv), .val (.int mo), .val (.int chp), .val (.int chq), .val (.int chr), .val (.int chs), .val (.int ((mo &&& (2147483647 : Int32)) % (5 : Int32))), .unset, .unset] [(.ref a855), (.ref a838), (.ref a838)] B_ := fun t_ hh => k180 t_ (st1660 t_ hh)
          clear k180 st1660 X1640 e1641 cl1647 Ar1648 q1649 S1650 Ng1651 H1652 Gf1653 hin1654 W1659 K1645 V1646 N1644
          have k182 : own_J p e below T1655 m 445 #[.val (.int av), .val (.int bv), .val (.int cv), .val (.int dv), .val (.int mo), .val (.int chp), .val (.int chq), .val (.int chr), .val (.int chs), .val (.int ((mo &&& (2147483647 : Int32)) % (5 : Int32))), .unset, .unset] [(.int chs), (.int (47 : Int32)), (.ref a855), (.ref a855), (.ref a838), (.ref a838)] B_ := fun t_ hh => k181 t_ (by
            refine XS.dup X1657.here hx rfl (hb hby at_440) rfl rfl ?_
            refine XS.bipush X1657.here hx rfl (hb hby at_441) ?_
            refine XS.iload X1657.here hx rfl (hb hby at_443) rfl ?_
            exact hh)
          clear k181
          obtain ⟨cl1664, Ar1665, q1666, S1667, Ng1668, H1669, Gf1670⟩ := id V1663
          have hin1671 := inb_of (j := (47 : Int32)) S1667 (by decide)
          obtain ⟨T1672, h1673, X1674, e1675, W1676, st1677⟩ := stC X1657 hx hZ e1658 Ar1665 (j := (47 : Int32)) hin1671 (g := (mkF m 445 #[.val (.int av), .val (.int bv), .val (.int cv), .val (.int dv), .val (.int mo), .val (.int chp), .val (.int chq), .val (.int chr), .val (.int chs), .val (.int ((mo &&& (2147483647 : Int32)) % (5 : Int32))), .unset, .unset] [(.int chs), (.int (47 : Int32)), (.ref a855), (.ref a855), (.ref a838), (.ref a838)])) rfl rfl (hb hby at_445)
          have N1678 := Fr.snoc X1674 N1661 G857
          have K1679 : Keep h847 h1673 [a855] := K1662.wr W1676 own_m0
          have V1680 : Arv Z h1673 a855 kA848 .char (64 : Int32) [(.int (nar .char chp)), (.int (nar .char chq)), (.int (nar .char chr)), (.int (nar .char chs)), (.int (nar .char chp)), (.int (nar .char chq)), (.int (nar .char chr)), (.int (nar .char chs)), (.int (nar .char chp)), (.int (nar .char chq)), (.int (nar .char chr)), (.int (nar .char chs)), (.int (nar .char chp)), (.int (nar .char chq)), (.int (nar .char chr)), (.int (nar .char chs)), (.int (nar .char chp)), (.int (nar .char chq)), (.int (nar .char chr)), (.int (nar .char chs)), (.int (nar .char chp)), (.int (nar .char chq)), (.int (nar .char chr)), (.int (nar .char chs)), (.int (nar .char chp)), (.int (nar .char chq)), (.int (nar .char chr)), (.int (nar .char chs)), (.int (nar .char chp)), (.int (nar .char chq)), (.int (nar .char chr)), (.int (nar .char chs)), (.int (nar .char chp)), (.int (nar .char chq)), (.int (nar .char chr)), (.int (nar .char chs)), (.int (nar .char chp)), (.int (nar .char chq)), (.int (nar .char chr)), (.int (nar .char chs)), (.int (nar .char chp)), (.int (nar .char chq)), (.int (nar .char chr)), (.int (nar .char chs)), (.int (nar .char chp)), (.int (nar .char chq)), (.int (nar .char chr)), (.int (nar .char chs)), (.int (0 : Int32)), (.int (0 : Int32)), (.int (0 : Int32)), (.int (0 : Int32)), (.int (0 : Int32)), (.int (0 : Int32)), (.int (0 : Int32)), (.int (0 : Int32)), (.int (0 : Int32)), (.int (0 : Int32)), (.int (0 : Int32)), (.int (0 : Int32)), (.int (0 : Int32)), (.int (0 : Int32)), (.int (0 : Int32)), (.int (0 : Int32))] (.int (0 : Int32)) := Arv.set Ar1665 q1666 S1667 Ng1668 H1669 Gf1670 (fits_nar_char _) W1676 47 rfl (own_lt rfl)
          have k183 : own_J p e below T1672 m 446 #[.val (.int av), .val (.int bv), .val (.int cv), .val (.int dv), .val (.int mo), .val (.int chp), .val (.int chq), .val (.int chr), .val (.int chs), .val (.int ((mo &&& (2147483647 : Int32)) % (5 : Int32))), .unset, .unset] [(.ref a855), (.ref a838), (.ref a838)] B_ := fun t_ hh => k182 t_ (st1677 t_ hh)
          clear k182 st1677 X1657 e1658 cl1664 Ar1665 q1666 S1667 Ng1668 H1669 Gf1670 hin1671 W1676 K1662 V1663 N1661
          have k184 : own_J p e below T1672 m 451 #[.val (.int av), .val (.int bv), .val (.int cv), .val (.int dv), .val (.int mo), .val (.int chp), .val (.int chq), .val (.int chr), .val (.int chs), .val (.int ((mo &&& (2147483647 : Int32)) % (5 : Int32))), .unset, .unset] [(.int chp), (.int (48 : Int32)), (.ref a855), (.ref a855), (.ref a838), (.ref a838)] B_ := fun t_ hh => k183 t_ (by
            refine XS.dup X1674.here hx rfl (hb hby at_446) rfl rfl ?_
            refine XS.bipush X1674.here hx rfl (hb hby at_447) ?_
            refine XS.iload X1674.here hx rfl (hb hby at_449) rfl ?_
            exact hh)
          clear k183
          obtain ⟨cl1681, Ar1682, q1683, S1684, Ng1685, H1686, Gf1687⟩ := id V1680
          have hin1688 := inb_of (j := (48 : Int32)) S1684 (by decide)
          obtain ⟨T1689, h1690, X1691, e1692, W1693, st1694⟩ := stC X1674 hx hZ e1675 Ar1682 (j := (48 : Int32)) hin1688 (g := (mkF m 451 #[.val (.int av), .val (.int bv), .val (.int cv), .val (.int dv), .val (.int mo), .val (.int chp), .val (.int chq), .val (.int chr), .val (.int chs), .val (.int ((mo &&& (2147483647 : Int32)) % (5 : Int32))), .unset, .unset] [(.int chp), (.int (48 : Int32)), (.ref a855), (.ref a855), (.ref a838), (.ref a838)])) rfl rfl (hb hby at_451)
          have N1695 := Fr.snoc X1691 N1678 G857
          have K1696 : Keep h847 h1690 [a855] := K1679.wr W1693 own_m0
          have V1697 := Arv.set Ar1682 q1683 S1684 Ng1685 H1686 Gf1687 (v := (.int (nar .char chp))) (fits_nar_char _) W1693 48 rfl (own_lt rfl)
          have k185 : own_J p e below T1689 m 452 #[.val (.int av), .val (.int bv), .val (.int cv), .val (.int dv), .val (.int mo), .val (.int chp), .val (.int chq), .val (.int chr), .val (.int chs), .val (.int ((mo &&& (2147483647 : Int32)) % (5 : Int32))), .unset, .unset] [(.ref a855), (.ref a838), (.ref a838)] B_ := fun t_ hh => k184 t_ (st1694 t_ hh)
          clear k184 st1694 X1674 e1675 cl1681 Ar1682 q1683 S1684 Ng1685 H1686 Gf1687 hin1688 W1693 K1679 V1680 N1678
          have k186 : own_J p e below T1689 m 457 #[.val (.int av), .val (.int bv), .val (.int cv), .val (.int dv), .val (.int mo), .val (.int chp), .val (.int chq), .val (.int chr), .val (.int chs), .val (.int ((mo &&& (2147483647 : Int32)) % (5 : Int32))), .unset, .unset] [(.int chq), (.int (49 : Int32)), (.ref a855), (.ref a855), (.ref a838), (.ref a838)] B_ := fun t_ hh => k185 t_ (by
            refine XS.dup X1691.here hx rfl (hb hby at_452) rfl rfl ?_
            refine XS.bipush X1691.here hx rfl (hb hby at_453) ?_
            refine XS.iload X1691.here hx rfl (hb hby at_455) rfl ?_
            exact hh)
          clear k185
          obtain ⟨cl1698, Ar1699, q1700, S1701, Ng1702, H1703, Gf1704⟩ := id V1697
          have hin1705 := inb_of (j := (49 : Int32)) S1701 (by decide)
          obtain ⟨T1706, h1707, X1708, e1709, W1710, st1711⟩ := stC X1691 hx hZ e1692 Ar1699 (j := (49 : Int32)) hin1705 (g := (mkF m 457 #[.val (.int av), .val (.int bv), .val (.int cv), .val (.int dv), .val (.int mo), .val (.int chp), .val (.int chq), .val (.int chr), .val (.int chs), .val (.int ((mo &&& (2147483647 : Int32)) % (5 : Int32))), .unset, .unset] [(.int chq), (.int (49 : Int32)), (.ref a855), (.ref a855), (.ref a838), (.ref a838)])) rfl rfl (hb hby at_457)
          have N1712 := Fr.snoc X1708 N1695 G857
          have K1713 : Keep h847 h1707 [a855] := K1696.wr W1710 own_m0
          have V1714 := Arv.set Ar1699 q1700 S1701 Ng1702 H1703 Gf1704 (v := (.int (nar .char chq))) (fits_nar_char _) W1710 49 rfl (own_lt rfl)
          have k187 : own_J p e below T1706 m 458 #[.val (.int av), .val (.int bv), .val (.int cv), .val (.int dv), .val (.int mo), .val (.int chp), .val (.int chq), .val (.int chr), .val (.int chs), .val (.int ((mo &&& (2147483647 : Int32)) % (5 : Int32))), .unset, .unset] [(.ref a855), (.ref a838), (.ref a838)] B_ := fun t_ hh => k186 t_ (st1711 t_ hh)
          clear k186 st1711 X1691 e1692 cl1698 Ar1699 q1700 S1701 Ng1702 H1703 Gf1704 hin1705 W1710 K1696 V1697 N1695
          have k188 : own_J p e below T1706 m 463 #[.val (.int av), .val (.int bv), .val (.int cv), .val (.int dv), .val (.int mo), .val (.int chp), .val (.int chq), .val (.int chr), .val (.int chs), .val (.int ((mo &&& (2147483647 : Int32)) % (5 : Int32))), .unset, .unset] [(.int chr), (.int (50 : Int32)), (.ref a855), (.ref a855), (.ref a838), (.ref a838)] B_ := fun t_ hh => k187 t_ (by
            refine XS.dup X1708.here hx rfl (hb hby at_458) rfl rfl ?_
            refine XS.bipush X1708.here hx rfl (hb hby at_459) ?_
            refine XS.iload X1708.here hx rfl (hb hby at_461) rfl ?_
            exact hh)
          clear k187
          obtain ⟨cl1715, Ar1716, q1717, S1718, Ng1719, H1720, Gf1721⟩ := id V1714
          have hin1722 := inb_of (j := (50 : Int32)) S1718 (by decide)
          obtain ⟨T1723, h1724, X1725, e1726, W1727, st1728⟩ := stC X1708 hx hZ e1709 Ar1716 (j := (50 : Int32)) hin1722 (g := (mkF m 463 #[.val (.int av), .val (.int bv), .val (.int cv), .val (.int dv), .val (.int mo), .val (.int chp), .val (.int chq), .val (.int chr), .val (.int chs), .val (.int ((mo &&& (2147483647 : Int32)) % (5 : Int32))), .unset, .unset] [(.int chr), (.int (50 : Int32)), (.ref a855), (.ref a855), (.ref a838), (.ref a838)])) rfl rfl (hb hby at_463)
          have N1729 := Fr.snoc X1725 N1712 G857
          have K1730 : Keep h847 h1724 [a855] := K1713.wr W1727 own_m0
          have V1731 : Arv Z h1724 a855 kA848 .char (64 : Int32) [(.int (nar .char chp)), (.int (nar .char chq)), (.int (nar .char chr)), (.int (nar .char chs)), (.int (nar .char chp)), (.int (nar .char chq)), (.int (nar .char chr)), (.int (nar .char chs)), (.int (nar .char chp)), (.int (nar .char chq)), (.int (nar .char chr)), (.int (nar .char chs)), (.int (nar .char chp)), (.int (nar .char chq)), (.int (nar .char chr)), (.int (nar .char chs)), (.int (nar .char chp)), (.int (nar .char chq)), (.int (nar .char chr)), (.int (nar .char chs)), (.int (nar .char chp)), (.int (nar .char chq)), (.int (nar .char chr)), (.int (nar .char chs)), (.int (nar .char chp)), (.int (nar .char chq)), (.int (nar .char chr)), (.int (nar .char chs)), (.int (nar .char chp)), (.int (nar .char chq)), (.int (nar .char chr)), (.int (nar .char chs)), (.int (nar .char chp)), (.int (nar .char chq)), (.int (nar .char chr)), (.int (nar .char chs)), (.int (nar .char chp)), (.int (nar .char chq)), (.int (nar .char chr)), (.int (nar .char chs)), (.int (nar .char chp)), (.int (nar .char chq)), (.int (nar .char chr)), (.int (nar .char chs)), (.int (nar .char chp)), (.int (nar .char chq)), (.int (nar .char chr)), (.int (nar .char chs)), (.int (nar .char chp)), (.int (nar .char chq)), (.int (nar .char chr)), (.int (0 : Int32)), (.int (0 : Int32)), (.int (0 : Int32)), (.int (0 : Int32)), (.int (0 : Int32)), (.int (0 : Int32)), (.int (0 : Int32)), (.int (0 : Int32)), (.int (0 : Int32)), (.int (0 : Int32)), (.int (0 : Int32)), (.int (0 : Int32)), (.int (0 : Int32))] (.int (0 : Int32)) := Arv.set Ar1716 q1717 S1718 Ng1719 H1720 Gf1721 (fits_nar_char _) W1727 50 rfl (own_lt rfl)
          have k189 : own_J p e below T1723 m 464 #[.val (.int av), .val (.int bv), .val (.int cv), .val (.int dv), .val (.int mo), .val (.int chp), .val (.int chq), .val (.int chr), .val (.int chs), .val (.int ((mo &&& (2147483647 : Int32)) % (5 : Int32))), .unset, .unset] [(.ref a855), (.ref a838), (.ref a838)] B_ := fun t_ hh => k188 t_ (st1728 t_ hh)
          clear k188 st1728 X1708 e1709 cl1715 Ar1716 q1717 S1718 Ng1719 H1720 Gf1721 hin1722 W1727 K1713 V1714 N1712
          have k190 : own_J p e below T1723 m 469 #[.val (.int av), .val (.int bv), .val (.int cv), .val (.int dv), .val (.int mo), .val (.int chp), .val (.int chq), .val (.int chr), .val (.int chs), .val (.int ((mo &&& (2147483647 : Int32)) % (5 : Int32))), .unset, .unset] [(.int chs), (.int (51 : Int32)), (.ref a855), (.ref a855), (.ref a838), (.ref a838)] B_ := fun t_ hh => k189 t_ (by
            refine XS.dup X1725.here hx rfl (hb hby at_464) rfl rfl ?_
            refine XS.bipush X1725.here hx rfl (hb hby at_465) ?_
            refine XS.iload X1725.here hx rfl (hb hby at_467) rfl ?_
            exact hh)
          clear k189
          obtain ⟨cl1732, Ar1733, q1734, S1735, Ng1736, H1737, Gf1738⟩ := id V1731
          have hin1739 := inb_of (j := (51 : Int32)) S1735 (by decide)
          obtain ⟨T1740, h1741, X1742, e1743, W1744, st1745⟩ := stC X1725 hx hZ e1726 Ar1733 (j := (51 : Int32)) hin1739 (g := (mkF m 469 #[.val (.int av), .val (.int bv), .val (.int cv), .val (.int dv), .val (.int mo), .val (.int chp), .val (.int chq), .val (.int chr), .val (.int chs), .val (.int ((mo &&& (2147483647 : Int32)) % (5 : Int32))), .unset, .unset] [(.int chs), (.int (51 : Int32)), (.ref a855), (.ref a855), (.ref a838), (.ref a838)])) rfl rfl (hb hby at_469)
          have N1746 := Fr.snoc X1742 N1729 G857
          have K1747 : Keep h847 h1741 [a855] := K1730.wr W1744 own_m0
          have V1748 := Arv.set Ar1733 q1734 S1735 Ng1736 H1737 Gf1738 (v := (.int (nar .char chs))) (fits_nar_char _) W1744 51 rfl (own_lt rfl)
          have k191 : own_J p e below T1740 m 470 #[.val (.int av), .val (.int bv), .val (.int cv), .val (.int dv), .val (.int mo), .val (.int chp), .val (.int chq), .val (.int chr), .val (.int chs), .val (.int ((mo &&& (2147483647 : Int32)) % (5 : Int32))), .unset, .unset] [(.ref a855), (.ref a838), (.ref a838)] B_ := fun t_ hh => k190 t_ (st1745 t_ hh)
          clear k190 st1745 X1725 e1726 cl1732 Ar1733 q1734 S1735 Ng1736 H1737 Gf1738 hin1739 W1744 K1730 V1731 N1729
          have k192 : own_J p e below T1740 m 475 #[.val (.int av), .val (.int bv), .val (.int cv), .val (.int dv), .val (.int mo), .val (.int chp), .val (.int chq), .val (.int chr), .val (.int chs), .val (.int ((mo &&& (2147483647 : Int32)) % (5 : Int32))), .unset, .unset] [(.int chp), (.int (52 : Int32)), (.ref a855), (.ref a855), (.ref a838), (.ref a838)] B_ := fun t_ hh => k191 t_ (by
            refine XS.dup X1742.here hx rfl (hb hby at_470) rfl rfl ?_
            refine XS.bipush X1742.here hx rfl (hb hby at_471) ?_
            refine XS.iload X1742.here hx rfl (hb hby at_473) rfl ?_
            exact hh)
          clear k191
          obtain ⟨cl1749, Ar1750, q1751, S1752, Ng1753, H1754, Gf1755⟩ := id V1748
          have hin1756 := inb_of (j := (52 : Int32)) S1752 (by decide)
          obtain ⟨T1757, h1758, X1759, e1760, W1761, st1762⟩ := stC X1742 hx hZ e1743 Ar1750 (j := (52 : Int32)) hin1756 (g := (mkF m 475 #[.val (.int av), .val (.int bv), .val (.int cv), .val (.int dv), .val (.int mo), .val (.int chp), .val (.int chq), .val (.int chr), .val (.int chs), .val (.int ((mo &&& (2147483647 : Int32)) % (5 : Int32))), .unset, .unset] [(.int chp), (.int (52 : Int32)), (.ref a855), (.ref a855), (.ref a838), (.ref a838)])) rfl rfl (hb hby at_475)
          have N1763 := Fr.snoc X1759 N1746 G857
          have K1764 : Keep h847 h1758 [a855] := K1747.wr W1761 own_m0
          have V1765 := Arv.set Ar1750 q1751 S1752 Ng1753 H1754 Gf1755 (v := (.int (nar .char chp))) (fits_nar_char _) W1761 52 rfl (own_lt rfl)
          have k193 : own_J p e below T1757 m 476 #[.val (.int av), .val (.int bv), .val (.int cv), .val (.int dv), .val (.int mo), .val (.int chp), .val (.int chq), .val (.int chr), .val (.int chs), .val (.int ((mo &&& (2147483647 : Int32)) % (5 : Int32))), .unset, .unset] [(.ref a855), (.ref a838), (.ref a838)] B_ := fun t_ hh => k192 t_ (st1762 t_ hh)
          clear k192 st1762 X1742 e1743 cl1749 Ar1750 q1751 S1752 Ng1753 H1754 Gf1755 hin1756 W1761 K1747 V1748 N1746
          have k194 : own_J p e below T1757 m 481 #[.val (.int av), .val (.int bv), .val (.int cv), .val (.int dv), .val (.int mo), .val (.int chp), .val (.int chq), .val (.int chr), .val (.int chs), .val (.int ((mo &&& (2147483647 : Int32)) % (5 : Int32))), .unset, .unset] [(.int chq), (.int (53 : Int32)), (.ref a855), (.ref a855), (.ref a838), (.ref a838)] B_ := fun t_ hh => k193 t_ (by
            refine XS.dup X1759.here hx rfl (hb hby at_476) rfl rfl ?_
            refine XS.bipush X1759.here hx rfl (hb hby at_477) ?_
            refine XS.iload X1759.here hx rfl (hb hby at_479) rfl ?_
            exact hh)
          clear k193
          obtain ⟨cl1766, Ar1767, q1768, S1769, Ng1770, H1771, Gf1772⟩ := id V1765
          have hin1773 := inb_of (j := (53 : Int32)) S1769 (by decide)
          obtain ⟨T1774, h1775, X1776, e1777, W1778, st1779⟩ := stC X1759 hx hZ e1760 Ar1767 (j := (53 : Int32)) hin1773 (g := (mkF m 481 #[.val (.int av), .val (.int bv), .val (.int cv), .val (.int dv), .val (.int mo), .val (.int chp), .val (.int chq), .val (.int chr), .val (.int chs), .val (.int ((mo &&& (2147483647 : Int32)) % (5 : Int32))), .unset, .unset] [(.int chq), (.int (53 : Int32)), (.ref a855), (.ref a855), (.ref a838), (.ref a838)])) rfl rfl (hb hby at_481)
          have N1780 := Fr.snoc X1776 N1763 G857
          have K1781 : Keep h847 h1775 [a855] := K1764.wr W1778 own_m0
          have V1782 : Arv Z h1775 a855 kA848 .char (64 : Int32) [(.int (nar .char chp)), (.int (nar .char chq)), (.int (nar .char chr)), (.int (nar .char chs)), (.int (nar .char chp)), (.int (nar .char chq)), (.int (nar .char chr)), (.int (nar .char chs)), (.int (nar .char chp)), (.int (nar .char chq)), (.int (nar .char chr)), (.int (nar .char chs)), (.int (nar .char chp)), (.int (nar .char chq)), (.int (nar .char chr)), (.int (nar .char chs)), (.int (nar .char chp)), (.int (nar .char chq)), (.int (nar .char chr)), (.int (nar .char chs)), (.int (nar .char chp)), (.int (nar .char chq)), (.int (nar .char chr)), (.int (nar .char chs)), (.int (nar .char chp)), (.int (nar .char chq)), (.int (nar .char chr)), (.int (nar .char chs)), (.int (nar .char chp)), (.int (nar .char chq)), (.int (nar .char chr)), (.int (nar .char chs)), (.int (nar .char chp)), (.int (nar .char chq)), (.int (nar .char chr)), (.int (nar .char chs)), (.int (nar .char chp)), (.int (nar .char chq)), (.int (nar .char chr)), (.int (nar .char chs)), (.int (nar .char chp)), (.int (nar .char chq)), (.int (nar .char chr)), (.int (nar .char chs)), (.int (nar .char chp)), (.int (nar .char chq)), (.int (nar .char chr)), (.int (nar .char chs)), (.int (nar .char chp)), (.int (nar .char chq)), (.int (nar .char chr)), (.int (nar .char chs)), (.int (nar .char chp)), (.int (nar .char chq)), (.int (0 : Int32)), (.int (0 : Int32)), (.int (0 : Int32)), (.int (0 : Int32)), (.int (0 : Int32)), (.int (0 : Int32)), (.int (0 : Int32)), (.int (0 : Int32)), (.int (0 : Int32)), (.int (0 : Int32))] (.int (0 : Int32)) := Arv.set Ar1767 q1768 S1769 Ng1770 H1771 Gf1772 (fits_nar_char _) W1778 53 rfl (own_lt rfl)
          have k195 : own_J p e below T1774 m 482 #[.val (.int av), .val (.int bv), .val (.int cv), .val (.int dv), .val (.int mo), .val (.int chp), .val (.int chq), .val (.int chr), .val (.int chs), .val (.int ((mo &&& (2147483647 : Int32)) % (5 : Int32))), .unset, .unset] [(.ref a855), (.ref a838), (.ref a838)] B_ := fun t_ hh => k194 t_ (st1779 t_ hh)
          clear k194 st1779 X1759 e1760 cl1766 Ar1767 q1768 S1769 Ng1770 H1771 Gf1772 hin1773 W1778 K1764 V1765 N1763
          have k196 : own_J p e below T1774 m 487 #[.val (.int av), .val (.int bv), .val (.int cv), .val (.int dv), .val (.int mo), .val (.int chp), .val (.int chq), .val (.int chr), .val (.int chs), .val (.int ((mo &&& (2147483647 : Int32)) % (5 : Int32))), .unset, .unset] [(.int chr), (.int (54 : Int32)), (.ref a855), (.ref a855), (.ref a838), (.ref a838)] B_ := fun t_ hh => k195 t_ (by
            refine XS.dup X1776.here hx rfl (hb hby at_482) rfl rfl ?_
            refine XS.bipush X1776.here hx rfl (hb hby at_483) ?_
            refine XS.iload X1776.here hx rfl (hb hby at_485) rfl ?_
            exact hh)
          clear k195
          obtain ⟨cl1783, Ar1784, q1785, S1786, Ng1787, H1788, Gf1789⟩ := id V1782
          have hin1790 := inb_of (j := (54 : Int32)) S1786 (by decide)
          obtain ⟨T1791, h1792, X1793, e1794, W1795, st1796⟩ := stC X1776 hx hZ e1777 Ar1784 (j := (54 : Int32)) hin1790 (g := (mkF m 487 #[.val (.int av), .val (.int bv), .val (.int cv), .val (.int dv), .val (.int mo), .val (.int chp), .val (.int chq), .val (.int chr), .val (.int chs), .val (.int ((mo &&& (2147483647 : Int32)) % (5 : Int32))), .unset, .unset] [(.int chr), (.int (54 : Int32)), (.ref a855), (.ref a855), (.ref a838), (.ref a838)])) rfl rfl (hb hby at_487)
          have N1797 := Fr.snoc X1793 N1780 G857
          have K1798 : Keep h847 h1792 [a855] := K1781.wr W1795 own_m0
          have V1799 := Arv.set Ar1784 q1785 S1786 Ng1787 H1788 Gf1789 (v := (.int (nar .char chr))) (fits_nar_char _) W1795 54 rfl (own_lt rfl)
          have k197 : own_J p e below T1791 m 488 #[.val (.int av), .val (.int bv), .val (.int cv), .val (.int dv), .val (.int mo), .val (.int chp), .val (.int chq), .val (.int chr), .val (.int chs), .val (.int ((mo &&& (2147483647 : Int32)) % (5 : Int32))), .unset, .unset] [(.ref a855), (.ref a838), (.ref a838)] B_ := fun t_ hh => k196 t_ (st1796 t_ hh)
          clear k196 st1796 X1776 e1777 cl1783 Ar1784 q1785 S1786 Ng1787 H1788 Gf1789 hin1790 W1795 K1781 V1782 N1780
          have k198 : own_J p e below T1791 m 493 #[.val (.int av), .val (.int bv), .val (.int cv), .val (.int dv), .val (.int mo), .val (.int chp), .val (.int chq), .val (.int chr), .val (.int chs), .val (.int ((mo &&& (2147483647 : Int32)) % (5 : Int32))), .unset, .unset] [(.int chs), (.int (55 : Int32)), (.ref a855), (.ref a855), (.ref a838), (.ref a838)] B_ := fun t_ hh => k197 t_ (by
            refine XS.dup X1793.here hx rfl (hb hby at_488) rfl rfl ?_
            refine XS.bipush X1793.here hx rfl (hb hby at_489) ?_
            refine XS.iload X1793.here hx rfl (hb hby at_491) rfl ?_
            exact hh)
          clear k197
          obtain ⟨cl1800, Ar1801, q1802, S1803, Ng1804, H1805, Gf1806⟩ := id V1799
          have hin1807 := inb_of (j := (55 : Int32)) S1803 (by decide)
          obtain ⟨T1808, h1809, X1810, e1811, W1812, st1813⟩ := stC X1793 hx hZ e1794 Ar1801 (j := (55 : Int32)) hin1807 (g := (mkF m 493 #[.val (.int av), .val (.int bv), .val (.int cv), .val (.int dv), .val (.int mo), .val (.int chp), .val (.int chq), .val (.int chr), .val (.int chs), .val (.int ((mo &&& (2147483647 : Int32)) % (5 : Int32))), .unset, .unset] [(.int chs), (.int (55 : Int32)), (.ref a855), (.ref a855), (.ref a838), (.ref a838)])) rfl rfl (hb hby at_493)
          have N1814 := Fr.snoc X1810 N1797 G857
          have K1815 : Keep h847 h1809 [a855] := K1798.wr W1812 own_m0
          have V1816 := Arv.set Ar1801 q1802 S1803 Ng1804 H1805 Gf1806 (v := (.int (nar .char chs))) (fits_nar_char _) W1812 55 rfl (own_lt rfl)
          have k199 : own_J p e below T1808 m 494 #[.val (.int av), .val (.int bv), .val (.int cv), .val (.int dv), .val (.int mo), .val (.int chp), .val (.int chq), .val (.int chr), .val (.int chs), .val (.int ((mo &&& (2147483647 : Int32)) % (5 : Int32))), .unset, .unset] [(.ref a855), (.ref a838), (.ref a838)] B_ := fun t_ hh => k198 t_ (st1813 t_ hh)
          clear k198 st1813 X1793 e1794 cl1800 Ar1801 q1802 S1803 Ng1804 H1805 Gf1806 hin1807 W1812 K1798 V1799 N1797
          have k200 : own_J p e below T1808 m 499 #[.val (.int av), .val (.int bv), .val (.int cv), .val (.int dv), .val (.int mo), .val (.int chp), .val (.int chq), .val (.int chr), .val (.int chs), .val (.int ((mo &&& (2147483647 : Int32)) % (5 : Int32))), .unset, .unset] [(.int chp), (.int (56 : Int32)), (.ref a855), (.ref a855), (.ref a838), (.ref a838)] B_ := fun t_ hh => k199 t_ (by
            refine XS.dup X1810.here hx rfl (hb hby at_494) rfl rfl ?_
            refine XS.bipush X1810.here hx rfl (hb hby at_495) ?_
            refine XS.iload X1810.here hx rfl (hb hby at_497) rfl ?_
            exact hh)
          clear k199
          obtain ⟨cl1817, Ar1818, q1819, S1820, Ng1821, H1822, Gf1823⟩ := id V1816
          have hin1824 := inb_of (j := (56 : Int32)) S1820 (by decide)
          obtain ⟨T1825, h1826, X1827, e1828, W1829, st1830⟩ := stC X1810 hx hZ e1811 Ar1818 (j := (56 : Int32)) hin1824 (g := (mkF m 499 #[.val (.int av), .val (.int bv), .val (.int cv), .val (.int dv), .val (.int mo), .val (.int chp), .val (.int chq), .val (.int chr), .val (.int chs), .val (.int ((mo &&& (2147483647 : Int32)) % (5 : Int32))), .unset, .unset] [(.int chp), (.int (56 : Int32)), (.ref a855), (.ref a855), (.ref a838), (.ref a838)])) rfl rfl (hb hby at_499)
          have N1831 := Fr.snoc X1827 N1814 G857
          have K1832 : Keep h847 h1826 [a855] := K1815.wr W1829 own_m0
          have V1833 : Arv Z h1826 a855 kA848 .char (64 : Int32) [(.int (nar .char chp)), (.int (nar .char chq)), (.int (nar .char chr)), (.int (nar .char chs)), (.int (nar .char chp)), (.int (nar .char chq)), (.int (nar .char chr)), (.int (nar .char chs)), (.int (nar .char chp)), (.int (nar .char chq)), (.int (nar .char chr)), (.int (nar .char chs)), (.int (nar .char chp)), (.int (nar .char chq)), (.int (nar .char chr)), (.int (nar .char chs)), (.int (nar .char chp)), (.int (nar .char chq)), (.int (nar .char chr)), (.int (nar .char chs)), (.int (nar .char chp)), (.int (nar .char chq)), (.int (nar .char chr)), (.int (nar .char chs)), (.int (nar .char chp)), (.int (nar .char chq)), (.int (nar .char chr)), (.int (nar .char chs)), (.int (nar .char chp)), (.int (nar .char chq)), (.int (nar .char chr)), (.int (nar .char chs)), (.int (nar .char chp)), (.int (nar .char chq)), (.int (nar .char chr)), (.int (nar .char chs)), (.int (nar .char chp)), (.int (nar .char chq)), (.int (nar .char chr)), (.int (nar .char chs)), (.int (nar .char chp)), (.int (nar .char chq)), (.int (nar .char chr)), (.int (nar .char chs)), (.int (nar .char chp)), (.int (nar .char chq)), (.int (nar .char chr)), (.int (nar .char chs)), (.int (nar .char chp)), (.int (nar .char chq)), (.int (nar .char chr)), (.int (nar .char chs)), (.int (nar .char chp)), (.int (nar .char chq)), (.int (nar .char chr)), (.int (nar .char chs)), (.int (nar .char chp)), (.int (0 : Int32)), (.int (0 : Int32)), (.int (0 : Int32)), (.int (0 : Int32)), (.int (0 : Int32)), (.int (0 : Int32)), (.int (0 : Int32))] (.int (0 : Int32)) := Arv.set Ar1818 q1819 S1820 Ng1821 H1822 Gf1823 (fits_nar_char _) W1829 56 rfl (own_lt rfl)
          have k201 : own_J p e below T1825 m 500 #[.val (.int av), .val (.int bv), .val (.int cv), .val (.int dv), .val (.int mo), .val (.int chp), .val (.int chq), .val (.int chr), .val (.int chs), .val (.int ((mo &&& (2147483647 : Int32)) % (5 : Int32))), .unset, .unset] [(.ref a855), (.ref a838), (.ref a838)] B_ := fun t_ hh => k200 t_ (st1830 t_ hh)
          clear k200 st1830 X1810 e1811 cl1817 Ar1818 q1819 S1820 Ng1821 H1822 Gf1823 hin1824 W1829 K1815 V1816 N1814
          have k202 : own_J p e below T1825 m 505 #[.val (.int av), .val (.int bv), .val (.int cv), .val (.int dv), .val (.int mo), .val (.int chp), .val (.int chq), .val (.int chr), .val (.int chs), .val (.int ((mo &&& (2147483647 : Int32)) % (5 : Int32))), .unset, .unset] [(.int chq), (.int (57 : Int32)), (.ref a855), (.ref a855), (.ref a838), (.ref a838)] B_ := fun t_ hh => k201 t_ (by
            refine XS.dup X1827.here hx rfl (hb hby at_500) rfl rfl ?_
            refine XS.bipush X1827.here hx rfl (hb hby at_501) ?_
            refine XS.iload X1827.here hx rfl (hb hby at_503) rfl ?_
            exact hh)
          clear k201
          obtain ⟨cl1834, Ar1835, q1836, S1837, Ng1838, H1839, Gf1840⟩ := id V1833
          have hin1841 := inb_of (j := (57 : Int32)) S1837 (by decide)
          obtain ⟨T1842, h1843, X1844, e1845, W1846, st1847⟩ := stC X1827 hx hZ e1828 Ar1835 (j := (57 : Int32)) hin1841 (g := (mkF m 505 #[.val (.int av), .val (.int bv), .val (.int cv), .val (.int dv), .val (.int mo), .val (.int chp), .val (.int chq), .val (.int chr), .val (.int chs), .val (.int ((mo &&& (2147483647 : Int32)) % (5 : Int32))), .unset, .unset] [(.int chq), (.int (57 : Int32)), (.ref a855), (.ref a855), (.ref a838), (.ref a838)])) rfl rfl (hb hby at_505)
          have N1848 := Fr.snoc X1844 N1831 G857
          have K1849 : Keep h847 h1843 [a855] := K1832.wr W1846 own_m0
          have V1850 := Arv.set Ar1835 q1836 S1837 Ng1838 H1839 Gf1840 (v := (.int (nar .char chq))) (fits_nar_char _) W1846 57 rfl (own_lt rfl)
          have k203 : own_J p e below T1842 m 506 #[.val (.int av), .val (.int bv), .val (.int cv), .val (.int dv), .val (.int mo), .val (.int chp), .val (.int chq), .val (.int chr), .val (.int chs), .val (.int ((mo &&& (2147483647 : Int32)) % (5 : Int32))), .unset, .unset] [(.ref a855), (.ref a838), (.ref a838)] B_ := fun t_ hh => k202 t_ (st1847 t_ hh)
          clear k202 st1847 X1827 e1828 cl1834 Ar1835 q1836 S1837 Ng1838 H1839 Gf1840 hin1841 W1846 K1832 V1833 N1831
          have k204 : own_J p e below T1842 m 511 #[.val (.int av), .val (.int bv), .val (.int cv), .val (.int dv), .val (.int mo), .val (.int chp), .val (.int chq), .val (.int chr), .val (.int chs), .val (.int ((mo &&& (2147483647 : Int32)) % (5 : Int32))), .unset, .unset] [(.int chr), (.int (58 : Int32)), (.ref a855), (.ref a855), (.ref a838), (.ref a838)] B_ := fun t_ hh => k203 t_ (by
            refine XS.dup X1844.here hx rfl (hb hby at_506) rfl rfl ?_
            refine XS.bipush X1844.here hx rfl (hb hby at_507) ?_
            refine XS.iload X1844.here hx rfl (hb hby at_509) rfl ?_
            exact hh)
          clear k203
          obtain ⟨cl1851, Ar1852, q1853, S1854, Ng1855, H1856, Gf1857⟩ := id V1850
          have hin1858 := inb_of (j := (58 : Int32)) S1854 (by decide)
          obtain ⟨T1859, h1860, X1861, e1862, W1863, st1864⟩ := stC X1844 hx hZ e1845 Ar1852 (j := (58 : Int32)) hin1858 (g := (mkF m 511 #[.val (.int av), .val (.int bv), .val (.int cv), .val (.int dv), .val (.int mo), .val (.int chp), .val (.int chq), .val (.int chr), .val (.int chs), .val (.int ((mo &&& (2147483647 : Int32)) % (5 : Int32))), .unset, .unset] [(.int chr), (.int (58 : Int32)), (.ref a855), (.ref a855), (.ref a838), (.ref a838)])) rfl rfl (hb hby at_511)
          have N1865 := Fr.snoc X1861 N1848 G857
          have K1866 : Keep h847 h1860 [a855] := K1849.wr W1863 own_m0
          have V1867 := Arv.set Ar1852 q1853 S1854 Ng1855 H1856 Gf1857 (v := (.int (nar .char chr))) (fits_nar_char _) W1863 58 rfl (own_lt rfl)
          have k205 : own_J p e below T1859 m 512 #[.val (.int av), .val (.int bv), .val (.int cv), .val (.int dv), .val (.int mo), .val (.int chp), .val (.int chq), .val (.int chr), .val (.int chs), .val (.int ((mo &&& (2147483647 : Int32)) % (5 : Int32))), .unset, .unset] [(.ref a855), (.ref a838), (.ref a838)] B_ := fun t_ hh => k204 t_ (st1864 t_ hh)
          clear k204 st1864 X1844 e1845 cl1851 Ar1852 q1853 S1854 Ng1855 H1856 Gf1857 hin1858 W1863 K1849 V1850 N1848
          have k206 : own_J p e below T1859 m 517 #[.val (.int av), .val (.int bv), .val (.int cv), .val (.int dv), .val (.int mo), .val (.int chp), .val (.int chq), .val (.int chr), .val (.int chs), .val (.int ((mo &&& (2147483647 : Int32)) % (5 : Int32))), .unset, .unset] [(.int chs), (.int (59 : Int32)), (.ref a855), (.ref a855), (.ref a838), (.ref a838)] B_ := fun t_ hh => k205 t_ (by
            refine XS.dup X1861.here hx rfl (hb hby at_512) rfl rfl ?_
            refine XS.bipush X1861.here hx rfl (hb hby at_513) ?_
            refine XS.iload X1861.here hx rfl (hb hby at_515) rfl ?_
            exact hh)
          clear k205
          obtain ⟨cl1868, Ar1869, q1870, S1871, Ng1872, H1873, Gf1874⟩ := id V1867
          have hin1875 := inb_of (j := (59 : Int32)) S1871 (by decide)
          obtain ⟨T1876, h1877, X1878, e1879, W1880, st1881⟩ := stC X1861 hx hZ e1862 Ar1869 (j := (59 : Int32)) hin1875 (g := (mkF m 517 #[.val (.int av), .val (.int bv), .val (.int cv), .val (.int dv), .val (.int mo), .val (.int chp), .val (.int chq), .val (.int chr), .val (.int chs), .val (.int ((mo &&& (2147483647 : Int32)) % (5 : Int32))), .unset, .unset] [(.int chs), (.int (59 : Int32)), (.ref a855), (.ref a855), (.ref a838), (.ref a838)])) rfl rfl (hb hby at_517)
          have N1882 := Fr.snoc X1878 N1865 G857
          have K1883 : Keep h847 h1877 [a855] := K1866.wr W1880 own_m0
          have V1884 : Arv Z h1877 a855 kA848 .char (64 : Int32) [(.int (nar .char chp)), (.int (nar .char chq)), (.int (nar .char chr)), (.int (nar .char chs)), (.int (nar .char chp)), (.int (nar .char chq)), (.int (nar .char chr)), (.int (nar .char chs)), (.int (nar .char chp)), (.int (nar .char chq)), (.int (nar .char chr)), (.int (nar .char chs)), (.int (nar .char chp)), (.int (nar .char chq)), (.int (nar .char chr)), (.int (nar .char chs)), (.int (nar .char chp)), (.int (nar .char chq)), (.int (nar .char chr)), (.int (nar .char chs)), (.int (nar .char chp)), (.int (nar .char chq)), (.int (nar .char chr)), (.int (nar .char chs)), (.int (nar .char chp)), (.int (nar .char chq)), (.int (nar .char chr)), (.int (nar .char chs)), (.int (nar .char chp)), (.int (nar .char chq)), (.int (nar .char chr)), (.int (nar .char chs)), (.int (nar .char chp)), (.int (nar .char chq)), (.int (nar .char chr)), (.int (nar .char chs)), (.int (nar .char chp)), (.int (nar .char chq)), (.int (nar .char chr)), (.int (nar .char chs)), (.int (nar .char chp)), (.int (nar .char chq)), (.int (nar .char chr)), (.int (nar .char chs)), (.int (nar .char chp)), (.int (nar .char chq)), (.int (nar .char chr)), (.int (nar .char chs)), (.int (nar .char chp)), (.int (nar .char chq)), (.int (nar .char chr)), (.int (nar .char chs)), (.int (nar .char chp)), (.int (nar .char chq)), (.int (nar .char chr)), (.int (nar .char chs)), (.int (nar .char chp)), (.int (nar .char chq)), (.int (nar .char chr)), (.int (nar .char chs)), (.int (0 : Int32)), (.int (0 : Int32)), (.int (0 : Int32)), (.int (0 : Int32))] (.int (0 : Int32)) := Arv.set Ar1869 q1870 S1871 Ng1872 H1873 Gf1874 (fits_nar_char _) W1880 59 rfl (own_lt rfl)
          have k207 : own_J p e below T1876 m 518 #[.val (.int av), .val (.int bv), .val (.int cv), .val (.int dv), .val (.int mo), .val (.int chp), .val (.int chq), .val (.int chr), .val (.int chs), .val (.int ((mo &&& (2147483647 : Int32)) % (5 : Int32))), .unset, .unset] [(.ref a855), (.ref a838), (.ref a838)] B_ := fun t_ hh => k206 t_ (st1881 t_ hh)
          clear k206 st1881 X1861 e1862 cl1868 Ar1869 q1870 S1871 Ng1872 H1873 Gf1874 hin1875 W1880 K1866 V1867 N1865
          have k208 : own_J p e below T1876 m 523 #[.val (.int av), .val (.int bv), .val (.int cv), .val (.int dv), .val (.int mo), .val (.int chp), .val (.int chq), .val (.int chr), .val (.int chs), .val (.int ((mo &&& (2147483647 : Int32)) % (5 : Int32))), .unset, .unset] [(.int chp), (.int (60 : Int32)), (.ref a855), (.ref a855), (.ref a838), (.ref a838)] B_ := fun t_ hh => k207 t_ (by
            refine XS.dup X1878.here hx rfl (hb hby at_518) rfl rfl ?_
            refine XS.bipush X1878.here hx rfl (hb hby at_519) ?_
            refine XS.iload X1878.here hx rfl (hb hby at_521) rfl ?_
            exact hh)
          clear k207
          obtain ⟨cl1885, Ar1886, q1887, S1888, Ng1889, H1890, Gf1891⟩ := id V1884
          have hin1892 := inb_of (j := (60 : Int32)) S1888 (by decide)
          obtain ⟨T1893, h1894, X1895, e1896, W1897, st1898⟩ := stC X1878 hx hZ e1879 Ar1886 (j := (60 : Int32)) hin1892 (g := (mkF m 523 #[.val (.int av), .val (.int bv), .val (.int cv), .val (.int dv), .val (.int mo), .val (.int chp), .val (.int chq), .val (.int chr), .val (.int chs), .val (.int ((mo &&& (2147483647 : Int32)) % (5 : Int32))), .unset, .unset] [(.int chp), (.int (60 : Int32)), (.ref a855), (.ref a855), (.ref a838), (.ref a838)])) rfl rfl (hb hby at_523)
          have N1899 := Fr.snoc X1895 N1882 G857
          have K1900 : Keep h847 h1894 [a855] := K1883.wr W1897 own_m0
          have V1901 := Arv.set Ar1886 q1887 S1888 Ng1889 H1890 Gf1891 (v := (.int (nar .char chp))) (fits_nar_char _) W1897 60 rfl (own_lt rfl)
          have k209 : own_J p e below T1893 m 524 #[.val (.int av), .val (.int bv), .val (.int cv), .val (.int dv), .val (.int mo), .val (.int chp), .val (.int chq), .val (.int chr), .val (.int chs), .val (.int ((mo &&& (2147483647 : Int32)) % (5 : Int32))), .unset, .unset] [(.ref a855), (.ref a838), (.ref a838)] B_ := fun t_ hh => k208 t_ (st1898 t_ hh)
          clear k208 st1898 X1878 e1879 cl1885 Ar1886 q1887 S1888 Ng1889 H1890 Gf1891 hin1892 W1897 K1883 V1884 N1882
          have k210 : own_J p e below T1893 m 529 #[.val (.int av), .val (.int bv), .val (.int cv), .val (.int dv), .val (.int mo), .val (.int chp), .val (.int chq), .val (.int chr), .val (.int chs), .val (.int ((mo &&& (2147483647 : Int32)) % (5 : Int32))), .unset, .unset] [(.int chq), (.int (61 : Int32)), (.ref a855), (.ref a855), (.ref a838), (.ref a838)] B_ := fun t_ hh => k209 t_ (by
            refine XS.dup X1895.here hx rfl (hb hby at_524) rfl rfl ?_
            refine XS.bipush X1895.here hx rfl (hb hby at_525) ?_
            refine XS.iload X1895.here hx rfl (hb hby at_527) rfl ?_
            exact hh)
          clear k209
          obtain ⟨cl1902, Ar1903, q1904, S1905, Ng1906, H1907, Gf1908⟩ := id V1901
          have hin1909 := inb_of (j := (61 : Int32)) S1905 (by decide)
          obtain ⟨T1910, h1911, X1912, e1913, W1914, st1915⟩ := stC X1895 hx hZ e1896 Ar1903 (j := (61 : Int32)) hin1909 (g := (mkF m 529 #[.val (.int av), .val (.int bv), .val (.int cv), .val (.int dv), .val (.int mo), .val (.int chp), .val (.int chq), .val (.int chr), .val (.int chs), .val (.int ((mo &&& (2147483647 : Int32)) % (5 : Int32))), .unset, .unset] [(.int chq), (.int (61 : Int32)), (.ref a855), (.ref a855), (.ref a838), (.ref a838)])) rfl rfl (hb hby at_529)
          have N1916 := Fr.snoc X1912 N1899 G857
          have K1917 : Keep h847 h1911 [a855] := K1900.wr W1914 own_m0
          have V1918 := Arv.set Ar1903 q1904 S1905 Ng1906 H1907 Gf1908 (v := (.int (nar .char chq))) (fits_nar_char _) W1914 61 rfl (own_lt rfl)
          have k211 : own_J p e below T1910 m 530 #[.val (.int av), .val (.int bv), .val (.int cv), .val (.int dv), .val (.int mo), .val (.int chp), .val (.int chq), .val (.int chr), .val (.int chs), .val (.int ((mo &&& (2147483647 : Int32)) % (5 : Int32))), .unset, .unset] [(.ref a855), (.ref a838), (.ref a838)] B_ := fun t_ hh => k210 t_ (st1915 t_ hh)
          clear k210 st1915 X1895 e1896 cl1902 Ar1903 q1904 S1905 Ng1906 H1907 Gf1908 hin1909 W1914 K1900 V1901 N1899
          have k212 : own_J p e below T1910 m 535 #[.val (.int av), .val (.int bv), .val (.int cv), .val (.int dv), .val (.int mo), .val (.int chp), .val (.int chq), .val (.int chr), .val (.int chs), .val (.int ((mo &&& (2147483647 : Int32)) % (5 : Int32))), .unset, .unset] [(.int chr), (.int (62 : Int32)), (.ref a855), (.ref a855), (.ref a838), (.ref a838)] B_ := fun t_ hh => k211 t_ (by
            refine XS.dup X1912.here hx rfl (hb hby at_530) rfl rfl ?_
            refine XS.bipush X1912.here hx rfl (hb hby at_531) ?_
            refine XS.iload X1912.here hx rfl (hb hby at_533) rfl ?_
            exact hh)
          clear k211
          obtain ⟨cl1919, Ar1920, q1921, S1922, Ng1923, H1924, Gf1925⟩ := id V1918
          have hin1926 := inb_of (j := (62 : Int32)) S1922 (by decide)
          obtain ⟨T1927, h1928, X1929, e1930, W1931, st1932⟩ := stC X1912 hx hZ e1913 Ar1920 (j := (62 : Int32)) hin1926 (g := (mkF m 535 #[.val (.int av), .val (.int bv), .val (.int cv), .val (.int dv), .val (.int mo), .val (.int chp), .val (.int chq), .val (.int chr), .val (.int chs), .val (.int ((mo &&& (2147483647 : Int32)) % (5 : Int32))), .unset, .unset] [(.int chr), (.int (62 : Int32)), (.ref a855), (.ref a855), (.ref a838), (.ref a838)])) rfl rfl (hb hby at_535)
          have N1933 := Fr.snoc X1929 N1916 G857
          have K1934 : Keep h847 h1928 [a855] := K1917.wr W1931 own_m0
          have V1935 : Arv Z h1928 a855 kA848 .char (64 : Int32) [(.int (nar .char chp)), (.int (nar .char chq)), (.int (nar .char chr)), (.int (nar .char chs)), (.int (nar .char chp)), (.int (nar .char chq)), (.int (nar .char chr)), (.int (nar .char chs)), (.int (nar .char chp)), (.int (nar .char chq)), (.int (nar .char chr)), (.int (nar .char chs)), (.int (nar .char chp)), (.int (nar .char chq)), (.int (nar .char chr)), (.int (nar .char chs)), (.int (nar .char chp)), (.int (nar .char chq)), (.int (nar .char chr)), (.int (nar .char chs)), (.int (nar .char chp)), (.int (nar .char chq)), (.int (nar .char chr)), (.int (nar .char chs)), (.int (nar .char chp)), (.int (nar .char chq)), (.int (nar .char chr)), (.int (nar .char chs)), (.int (nar .char chp)), (.int (nar .char chq)), (.int (nar .char chr)), (.int (nar .char chs)), (.int (nar .char chp)), (.int (nar .char chq)), (.int (nar .char chr)), (.int (nar .char chs)), (.int (nar .char chp)), (.int (nar .char chq)), (.int (nar .char chr)), (.int (nar .char chs)), (.int (nar .char chp)), (.int (nar .char chq)), (.int (nar .char chr)), (.int (nar .char chs)), (.int (nar .char chp)), (.int (nar .char chq)), (.int (nar .char chr)), (.int (nar .char chs)), (.int (nar .char chp)), (.int (nar .char chq)), (.int (nar .char chr)), (.int (nar .char chs)), (.int (nar .char chp)), (.int (nar .char chq)), (.int (nar .char chr)), (.int (nar .char chs)), (.int (nar .char chp)), (.int (nar .char chq)), (.int (nar .char chr)), (.int (nar .char chs)), (.int (nar .char chp)), (.int (nar .char chq)), (.int (nar .char chr)), (.int (0 : Int32))] (.int (0 : Int32)) := Arv.set Ar1920 q1921 S1922 Ng1923 H1924 Gf1925 (fits_nar_char _) W1931 62 rfl (own_lt rfl)
          have k213 : own_J p e below T1927 m 536 #[.val (.int av), .val (.int bv), .val (.int cv), .val (.int dv), .val (.int mo), .val (.int chp), .val (.int chq), .val (.int chr), .val (.int chs), .val (.int ((mo &&& (2147483647 : Int32)) % (5 : Int32))), .unset, .unset] [(.ref a855), (.ref a838), (.ref a838)] B_ := fun t_ hh => k212 t_ (st1932 t_ hh)
          clear k212 st1932 X1912 e1913 cl1919 Ar1920 q1921 S1922 Ng1923 H1924 Gf1925 hin1926 W1931 K1917 V1918 N1916
          have k214 : own_J p e below T1927 m 541 #[.val (.int av), .val (.int bv), .val (.int cv), .val (.int dv), .val (.int mo), .val (.int chp), .val (.int chq), .val (.int chr), .val (.int chs), .val (.int ((mo &&& (2147483647 : Int32)) % (5 : Int32))), .unset, .unset] [(.int chs), (.int (63 : Int32)), (.ref a855), (.ref a855), (.ref a838), (.ref a838)] B_ := fun t_ hh => k213 t_ (by
            refine XS.dup X1929.here hx rfl (hb hby at_536) rfl rfl ?_
            refine XS.bipush X1929.here hx rfl (hb hby at_537) ?_
            refine XS.iload X1929.here hx rfl (hb hby at_539) rfl ?_
            exact hh)
          clear k213
          obtain ⟨cl1936, Ar1937, q1938, S1939, Ng1940, H1941, Gf1942⟩ := id V1935
          have hin1943 := inb_of (j := (63 : Int32)) S1939 (by decide)
          obtain ⟨T1944, h1945, X1946, e1947, W1948, st1949⟩ := stC X1929 hx hZ e1930 Ar1937 (j := (63 : Int32)) hin1943 (g := (mkF m 541 #[.val (.int av), .val (.int bv), .val (.int cv), .val (.int dv), .val (.int mo), .val (.int chp), .val (.int chq), .val (.int chr), .val (.int chs), .val (.int ((mo &&& (2147483647 : Int32)) % (5 : Int32))), .unset, .unset] [(.int chs), (.int (63 : Int32)), (.ref a855), (.ref a855), (.ref a838), (.ref a838)])) rfl rfl (hb hby at_541)
          have N1950 := Fr.snoc X1946 N1933 G857
          have K1951 : Keep h847 h1945 [a855] := K1934.wr W1948 own_m0
          have V1952 := Arv.set Ar1937 q1938 S1939 Ng1940 H1941 Gf1942 (v := (.int (nar .char chs))) (fits_nar_char _) W1948 63 rfl (own_lt rfl)
          have k215 : own_J p e below T1944 m 542 #[.val (.int av), .val (.int bv), .val (.int cv), .val (.int dv), .val (.int mo), .val (.int chp), .val (.int chq), .val (.int chr), .val (.int chs), .val (.int ((mo &&& (2147483647 : Int32)) % (5 : Int32))), .unset, .unset] [(.ref a855), (.ref a838), (.ref a838)] B_ := fun t_ hh => k214 t_ (st1949 t_ hh)
          clear k214 st1949 X1929 e1930 cl1936 Ar1937 q1938 S1939 Ng1940 H1941 Gf1942 hin1943 W1948 K1934 V1935 N1933
          have V1953 : Arv Z h1945 a855 kA848 .char (64 : Int32) [(.int (nar .char chp)), (.int (nar .char chq)), (.int (nar .char chr)), (.int (nar .char chs)), (.int (nar .char chp)), (.int (nar .char chq)), (.int (nar .char chr)), (.int (nar .char chs)), (.int (nar .char chp)), (.int (nar .char chq)), (.int (nar .char chr)), (.int (nar .char chs)), (.int (nar .char chp)), (.int (nar .char chq)), (.int (nar .char chr)), (.int (nar .char chs)), (.int (nar .char chp)), (.int (nar .char chq)), (.int (nar .char chr)), (.int (nar .char chs)), (.int (nar .char chp)), (.int (nar .char chq)), (.int (nar .char chr)), (.int (nar .char chs)), (.int (nar .char chp)), (.int (nar .char chq)), (.int (nar .char chr)), (.int (nar .char chs)), (.int (nar .char chp)), (.int (nar .char chq)), (.int (nar .char chr)), (.int (nar .char chs)), (.int (nar .char chp)), (.int (nar .char chq)), (.int (nar .char chr)), (.int (nar .char chs)), (.int (nar .char chp)), (.int (nar .char chq)), (.int (nar .char chr)), (.int (nar .char chs)), (.int (nar .char chp)), (.int (nar .char chq)), (.int (nar .char chr)), (.int (nar .char chs)), (.int (nar .char chp)), (.int (nar .char chq)), (.int (nar .char chr)), (.int (nar .char chs)), (.int (nar .char chp)), (.int (nar .char chq)), (.int (nar .char chr)), (.int (nar .char chs)), (.int (nar .char chp)), (.int (nar .char chq)), (.int (nar .char chr)), (.int (nar .char chs)), (.int (nar .char chp)), (.int (nar .char chq)), (.int (nar .char chr)), (.int (nar .char chs)), (.int (nar .char chp)), (.int (nar .char chq)), (.int (nar .char chr)), (.int (nar .char chs))] (.int (0 : Int32)) := V1952
          have F1954 := F859.keep K1951
          have ne1956 : a838 ≠ a855 := by rw [g856]; exact Nat.ne_of_lt A834.lt
          have F1955 := F860.keep K1951 (ninS ne1956 nin0)
          have F1957 := F861.keep K1951 (ninS ne1956 nin0)
          have Z1958 : n0 ≤ h1945.size := Nat.le_trans Z862 K1951.1
          have hk1959 := Nat.le_trans hk858 K1951.1
          have O1960 := O863.keep K1951 (allS G857 all0)
          have hp1961 : ∀ c ∈ ([(nar .char chp), (nar .char chq), (nar .char chr), (nar .char chs), (nar .char chp), (nar .char chq), (nar .char chr), (nar .char chs), (nar .char chp), (nar .char chq), (nar .char chr), (nar .char chs), (nar .char chp), (nar .char chq), (nar .char chr), (nar .char chs), (nar .char chp), (nar .char chq), (nar .char chr), (nar .char chs), (nar .char chp), (nar .char chq), (nar .char chr), (nar .char chs), (nar .char chp), (nar .char chq), (nar .char chr), (nar .char chs), (nar .char chp), (nar .char chq), (nar .char chr), (nar .char chs), (nar .char chp), (nar .char chq), (nar .char chr), (nar .char chs), (nar .char chp), (nar .char chq), (nar .char chr), (nar .char chs), (nar .char chp), (nar .char chq), (nar .char chr), (nar .char chs), (nar .char chp), (nar .char chq), (nar .char chr), (nar .char chs), (nar .char chp), (nar .char chq), (nar .char chr), (nar .char chs), (nar .char chp), (nar .char chq), (nar .char chr), (nar .char chs), (nar .char chp), (nar .char chq), (nar .char chr), (nar .char chs), (nar .char chp), (nar .char chq), (nar .char chr), (nar .char chs)] : List Int32), own_ok c := (List.forall_mem_cons.mpr ⟨(own_ok_narok okp), (List.forall_mem_cons.mpr ⟨(own_ok_narok okq), (List.forall_mem_cons.mpr ⟨(own_ok_narok okr), (List.forall_mem_cons.mpr ⟨(own_ok_narok oks), (List.forall_mem_cons.mpr ⟨(own_ok_narok okp), (List.forall_mem_cons.mpr ⟨(own_ok_narok okq), (List.forall_mem_cons.mpr ⟨(own_ok_narok okr), (List.forall_mem_cons.mpr ⟨(own_ok_narok oks), (List.forall_mem_cons.mpr ⟨(own_ok_narok okp), (List.forall_mem_cons.mpr ⟨(own_ok_narok okq), (List.forall_mem_cons.mpr ⟨(own_ok_narok okr), (List.forall_mem_cons.mpr ⟨(own_ok_narok oks), (List.forall_mem_cons.mpr ⟨(own_ok_narok okp), (List.forall_mem_cons.mpr ⟨(own_ok_narok okq), (List.forall_mem_cons.mpr ⟨(own_ok_narok okr), (List.forall_mem_cons.mpr ⟨(own_ok_narok oks), (List.forall_mem_cons.mpr ⟨(own_ok_narok okp), (List.forall_mem_cons.mpr ⟨(own_ok_narok okq), (List.forall_mem_cons.mpr ⟨(own_ok_narok okr), (List.forall_mem_cons.mpr ⟨(own_ok_narok oks), (List.forall_mem_cons.mpr ⟨(own_ok_narok okp), (List.forall_mem_cons.mpr ⟨(own_ok_narok okq), (List.forall_mem_cons.mpr ⟨(own_ok_narok okr), (List.forall_mem_cons.mpr ⟨(own_ok_narok oks), (List.forall_mem_cons.mpr ⟨(own_ok_narok okp), (List.forall_mem_cons.mpr ⟨(own_ok_narok okq), (List.forall_mem_cons.mpr ⟨(own_ok_narok okr), (List.forall_mem_cons.mpr ⟨(own_ok_narok oks), (List.forall_mem_cons.mpr ⟨(own_ok_narok okp), (List.forall_mem_cons.mpr ⟨(own_ok_narok okq), (List.forall_mem_cons.mpr ⟨(own_ok_narok okr), (List.forall_mem_cons.mpr ⟨(own_ok_narok oks), (List.forall_mem_cons.mpr ⟨(own_ok_narok okp), (List.forall_mem_cons.mpr ⟨(own_ok_narok okq), (List.forall_mem_cons.mpr ⟨(own_ok_narok okr), (List.forall_mem_cons.mpr ⟨(own_ok_narok oks), (List.forall_mem_cons.mpr ⟨(own_ok_narok okp), (List.forall_mem_cons.mpr ⟨(own_ok_narok okq), (List.forall_mem_cons.mpr ⟨(own_ok_narok okr), (List.forall_mem_cons.mpr ⟨(own_ok_narok oks), (List.forall_mem_cons.mpr ⟨(own_ok_narok okp), (List.forall_mem_cons.mpr ⟨(own_ok_narok okq), (List.forall_mem_cons.mpr ⟨(own_ok_narok okr), (List.forall_mem_cons.mpr ⟨(own_ok_narok oks), (List.forall_mem_cons.mpr ⟨(own_ok_narok okp), (List.forall_mem_cons.mpr ⟨(own_ok_narok okq), (List.forall_mem_cons.mpr ⟨(own_ok_narok okr), (List.forall_mem_cons.mpr ⟨(own_ok_narok oks), (List.forall_mem_cons.mpr ⟨(own_ok_narok okp), (List.forall_mem_cons.mpr ⟨(own_ok_narok okq), (List.forall_mem_cons.mpr ⟨(own_ok_narok okr), (List.forall_mem_cons.mpr ⟨(own_ok_narok oks), (List.forall_mem_cons.mpr ⟨(own_ok_narok okp), (List.forall_mem_cons.mpr ⟨(own_ok_narok okq), (List.forall_mem_cons.mpr ⟨(own_ok_narok okr), (List.forall_mem_cons.mpr ⟨(own_ok_narok oks), (List.forall_mem_cons.mpr ⟨(own_ok_narok okp), (List.forall_mem_cons.mpr ⟨(own_ok_narok okq), (List.forall_mem_cons.mpr ⟨(own_ok_narok okr), (List.forall_mem_cons.mpr ⟨(own_ok_narok oks), (List.forall_mem_cons.mpr ⟨(own_ok_narok okp), (List.forall_mem_cons.mpr ⟨(own_ok_narok okq), (List.forall_mem_cons.mpr ⟨(own_ok_narok okr), (List.forall_mem_cons.mpr ⟨(own_ok_narok oks), (fun _ q => nomatch q)⟩)⟩)⟩)⟩)⟩)⟩)⟩)⟩)⟩)⟩)⟩)⟩)⟩)⟩)⟩)⟩)⟩)⟩)⟩)⟩)⟩)⟩)⟩)⟩)⟩)⟩)⟩)⟩)⟩)⟩)⟩)⟩)⟩)⟩)⟩)⟩)⟩)⟩)⟩)⟩)⟩)⟩)⟩)⟩)⟩)⟩)⟩)⟩)⟩)⟩)⟩)⟩)⟩)⟩)⟩)⟩)⟩)⟩)⟩)⟩)⟩)⟩)⟩)⟩)
          have F1962 : Arv Z h1945 a855 kA848 .char (Int32.ofNat 64) (([(nar .char chp), (nar .char chq), (nar .char chr), (nar .char chs), (nar .char chp), (nar .char chq), (nar .char chr), (nar .char chs), (nar .char chp), (nar .char chq), (nar .char chr), (nar .char chs), (nar .char chp), (nar .char chq), (nar .char chr), (nar .char chs), (nar .char chp), (nar .char chq), (nar .char chr), (nar .char chs), (nar .char chp), (nar .char chq), (nar .char chr), (nar .char chs), (nar .char chp), (nar .char chq), (nar .char chr), (nar .char chs), (nar .char chp), (nar .char chq), (nar .char chr), (nar .char chs), (nar .char chp), (nar .char chq), (nar .char chr), (nar .char chs), (nar .char chp), (nar .char chq), (nar .char chr), (nar .char chs), (nar .char chp), (nar .char chq), (nar .char chr), (nar .char chs), (nar .char chp), (nar .char chq), (nar .char chr), (nar .char chs), (nar .char chp), (nar .char chq), (nar .char chr), (nar .char chs), (nar .char chp), (nar .char chq), (nar .char chr), (nar .char chs), (nar .char chp), (nar .char chq), (nar .char chr), (nar .char chs), (nar .char chp), (nar .char chq), (nar .char chr), (nar .char chs)] : List Int32).map Value.int) (.int 0) := V1953
          obtain ⟨cs1963, hp1964, hl1965, F1966⟩ : ∃ z : List Int32, (∀ c ∈ z, own_ok c) ∧ z.length = 64 ∧ Arv Z h1945 a855 kA848 .char (Int32.ofNat 64) (z.map Value.int) (.int 0) := ⟨_, hp1961, rfl, F1962⟩
          have F1967 : Arv Z h1945 a855 kA848 .char (Int32.ofNat (List.length cs1963)) (cs1963.map Value.int) (.int 0) := own_lenA hl1965 F1966
          clear F1966 F1962 V1953 hp1961
          obtain ⟨_, _, ⟨T1968, L1969, k_1970, n_1971⟩, -, X1972, ⟨Lc1973, hQ1974, l_1975, y_1976, z_1977⟩, st1978⟩ := X1946.specialBack hx (y := (⟨"java/lang/String", "<init>", "([C)V"⟩ : MethodName)) rfl hown (mvT hZ (wT hw 89 rfl)) (mvT hZ (wT hw 90 rfl)) (mvT hZ (wT hw 91 rfl)) (by decide) (StrChars.Road.backV (W := 1) hZ (fun d hd => hw d (own_sub_words d hd)) (kI := 4) (wT hw 15 rfl) (cs := cs1963) (n0 := n0) G840 Z1958 F1954 F1955 F1957 F1967 (Sta.ext O1960.2 sC) hc hl1965 (congrArg Int32.ofNat hl1965) (own_lt rfl) (own_l rfl) (fun c hc => own_ok_b8 (hp1964 c hc)) rfl (by decide) (by decide)) (g := (mkF m 542 #[.val (.int av), .val (.int bv), .val (.int cv), .val (.int dv), .val (.int mo), .val (.int chp), .val (.int chq), .val (.int chr), .val (.int chs), .val (.int ((mo &&& (2147483647 : Int32)) % (5 : Int32))), .unset, .unset] [(.ref a855), (.ref a838), (.ref a838)])) rfl (by rw [hml]; rfl) (Steps.refl _) (a := a838) (argsL := [(.ref a855)]) (rest := [(.ref a838)]) (lenOf own_h186 rfl) rfl (by show 2 * 0 + _ ≤ _; exact Nat.le_of_eq rfl) (hb hby at_542) (fun _ _ => ⟨rfl, e1947, own_l rfl, own_l rfl⟩)
          dsimp only [Pt.U, Pt.locs, Pt.cells, Pt.slots] at X1972 l_1975 y_1976 z_1977 st1978 hQ1974
          replace l_1975 := l_1975.symm
          subst l_1975 y_1976 z_1977
          obtain ⟨rfl, N1979, K1980, E1981, F1982, t1983, kb1984, G1985, G1986, G1987, F1988, F1989⟩ := hQ1974
          have N1990 := Fr.app N1950 N1979
          have F1991 := F1954.keep K1980
          have F1992 := F1967.keep K1980 (ninS (Ne.symm ne1956) nin0)
          have Z1993 : n0 ≤ T1968.heap.size := Nat.le_trans Z1958 K1980.1
          have hk1994 := Nat.le_trans hk1959 K1980.1
          have O1995 := O1960.keep K1980 (allS G840 all0)
          have S1996 : own_Str Z T1968.heap a838 t1983 kb1984 cs1963 := ⟨E1981, F1988, F1982, F1989⟩
          have e1997 : T1968.heap = T1968.heap := rfl
          have k216 : own_J p e below T1968 m 545 #[.val (.int av), .val (.int bv), .val (.int cv), .val (.int dv), .val (.int mo), .val (.int chp), .val (.int chq), .val (.int chr), .val (.int chs), .val (.int ((mo &&& (2147483647 : Int32)) % (5 : Int32))), .unset, .unset] [(.ref a838)] B_ := fun t_ hh => k215 t_ (st1978.trans hh)
          clear k215 st1978 X1946 e1947
          have k217 : own_J p e below T1968 m 549 #[.val (.int av), .val (.int bv), .val (.int cv), .val (.int dv), .val (.int mo), .val (.int chp), .val (.int chq), .val (.int chr), .val (.int chs), .val (.int ((mo &&& (2147483647 : Int32)) % (5 : Int32))), .val (.ref a838), .unset] [(.ref a838)] B_ := fun t_ hh => k216 t_ (by
            refine XS.astore X1972.here hx rfl (hb hby at_545) rfl rfl (l' := #[.val (.int av), .val (.int bv), .val (.int cv), .val (.int dv), .val (.int mo), .val (.int chp), .val (.int chq), .val (.int chr), .val (.int chs), .val (.int ((mo &&& (2147483647 : Int32)) % (5 : Int32))), .val (.ref a838), .unset]) rfl ?_
            refine XS.aload X1972.here hx rfl (hb hby at_547) rfl rfl ?_
            exact hh)
          clear k216
          obtain ⟨_, _, ⟨T1998, L1999, k_2000, n_2001⟩, -, X2002, hSc2009, hgr2010, ⟨Lc2003, hQ2004, l_2005, y_2006, z_2007⟩, st2008⟩ := callSS X1972 hx (y := (⟨"com/example/tidying/tidying/PoolNames", "requireValid", "(Ljava/lang/String;)Ljava/lang/String;"⟩ : MethodName)) hown (mvT hZ (wT hw 31 rfl)) (mvT hZ (wT hw 32 rfl)) (mvT hZ (wT hw 33 rfl)) (mvT hZ (wT hw 34 rfl)) (by decide) (backOfS (W := 0) (rmV l Z a0 hw [] a838 t1983 kb1984 cs1963 T1968.heap n0 Z1993 S1996 O1995 ci sC hc gv sG hg (own_lenp hl1965 (own_lt rfl)) (own_lenl hl1965 (own_l rfl)) hp1964) hZ (wT hw 34 rfl) (wT hw 33 rfl) (by decide) (by decide)) (g := (mkF m 549 #[.val (.int av), .val (.int bv), .val (.int cv), .val (.int dv), .val (.int mo), .val (.int chp), .val (.int chq), .val (.int chr), .val (.int chs), .val (.int ((mo &&& (2147483647 : Int32)) % (5 : Int32))), .val (.ref a838), .unset] [(.ref a838)])) rfl (by rw [hml]; rfl) (argsL := [(.ref a838)]) (rest := []) (lenOf own_h177 rfl) rfl (by show 2 * 0 + _ ≤ _; exact Nat.le_of_eq rfl) (hb hby at_549) (fun _ _ => ⟨rfl, e1997, own_l rfl, own_l rfl⟩)
          dsimp only [Pt.U, Pt.locs, Pt.cells, Pt.slots] at X2002 hSc2009 hgr2010 l_2005 y_2006 z_2007 st2008 hQ2004
          replace l_2005 := l_2005.symm
          subst l_2005 y_2006 z_2007
          obtain ⟨X2012, hS2013, hZ2014, hown2015⟩ := rebS hS0 (by rw [e1997]; exact hk1994) X2002 hSc2009 hgr2010 hZ hown
          obtain ⟨rfl, N2016, K2017⟩ := hQ2004
          have N2018 := Fr.app N1990 N2016
          have F2019 := E1981.keep K2017
          have F2020 := F1992.keep K2017 nin0
          have Z2021 : n0 ≤ T1998.heap.size := Nat.le_trans Z1993 K2017.1
          have hk2022 := Nat.le_trans hk1994 K2017.1
          have O2023 := O1995.keep K2017 all0
          have S2024 := S1996.keep K2017 nin0 nin0
          have e2025 : T1998.heap = T1998.heap := rfl
          have k218 : own_J p e below T1998 m 552 #[.val (.int av), .val (.int bv), .val (.int cv), .val (.int dv), .val (.int mo), .val (.int chp), .val (.int chq), .val (.int chr), .val (.int chs), .val (.int ((mo &&& (2147483647 : Int32)) % (5 : Int32))), .val (.ref a838), .unset] [(.ref a838)] B_ := fun t_ hh => k217 t_ (st2008.trans hh)
          clear k217 st2008 X1972 e1997
          have k219 : own_J p e below T1998 m 561 #[.val (.int av), .val (.int bv), .val (.int cv), .val (.int dv), .val (.int mo), .val (.int chp), .val (.int chq), .val (.int chr), .val (.int chs), .val (.int ((mo &&& (2147483647 : Int32)) % (5 : Int32))), .val (.ref a838), .val (.ref a838)] [(.ref a838)] B_ := fun t_ hh => k218 t_ (by
            refine XS.astore X2012.here hx rfl (hb hby at_552) rfl rfl (l' := #[.val (.int av), .val (.int bv), .val (.int cv), .val (.int dv), .val (.int mo), .val (.int chp), .val (.int chq), .val (.int chr), .val (.int chs), .val (.int ((mo &&& (2147483647 : Int32)) % (5 : Int32))), .val (.ref a838), .val (.ref a838)]) rfl ?_
            refine XS.aload X2012.here hx rfl (hb hby at_554) rfl rfl ?_
            refine XS.ifnullNo X2012.here hx rfl (hb hby at_556) rfl ?_
            refine XS.aload X2012.here hx rfl (hb hby at_559) rfl rfl ?_
            exact hh)
          clear k218
          obtain ⟨cq2037, kq2038, qa2039, qb2040, qc2041⟩ := isOf hZ2014 e2025 F2019
          obtain ⟨_, _, ⟨T2026, L2027, k_2028, n_2029⟩, -, X2030, ⟨Lc2031, hQ2032, l_2033, y_2034, z_2035⟩, st2036⟩ := X2012.virtualBack hx (y := (⟨"java/lang/String", "length", "()I"⟩ : MethodName)) (z := (⟨"java/lang/String", "length", "()I"⟩ : MethodName)) hown2015 (mvT hZ2014 (wT hw 81 rfl)) (mvT hZ2014 (wT hw 43 rfl)) (notFace_of_selects (args := #[]) (mvT hZ2014 (wT hw 45 rfl))) (mvT hZ2014 (wT hw 45 rfl)) (mvT hZ2014 (wT hw 44 rfl)) (by decide) (StrChars.Road.lenW (W := 0) hZ2014 (fun d hd => hw d (own_sub_wordsLen d hd)) (kI := 4) (wT hw 15 rfl) S2024.1 S2024.2.1 S2024.2.2.1 S2024.2.2.2 (own_cod (fun c hc => own_ok_b8 (hp1964 c hc))) (fun c hc => ((fun c hc => own_ok_b8 (hp1964 c hc)) c hc).up) (Sta.ext O2023.2 sC) hc (own_lenl hl1965 (own_l rfl)) (by decide) (by decide)) qa2039 qc2041 (g := (mkF m 561 #[.val (.int av), .val (.int bv), .val (.int cv), .val (.int dv), .val (.int mo), .val (.int chp), .val (.int chq), .val (.int chr), .val (.int chs), .val (.int ((mo &&& (2147483647 : Int32)) % (5 : Int32))), .val (.ref a838), .val (.ref a838)] [(.ref a838)])) rfl (by rw [hml]; rfl) (Steps.refl _) (argsL := []) (rest := []) (lenOf own_h179 rfl) rfl (by show 2 * 0 + _ ≤ _; exact Nat.le_of_eq rfl) (hb hby at_561) (fun _ _ => ⟨rfl, e2025, own_l rfl, own_l rfl⟩)
          dsimp only [Pt.U, Pt.locs, Pt.cells, Pt.slots] at X2030 l_2033 y_2034 z_2035 st2036 hQ2032
          replace l_2033 := l_2033.symm
          subst l_2033 y_2034 z_2035
          obtain ⟨rfl, rfl, e2042⟩ := hQ2032
          have N2043 := Fr.app N2018 (Fr.nil n0)
          have k220 : own_J p e below T2026 m 564 #[.val (.int av), .val (.int bv), .val (.int cv), .val (.int dv), .val (.int mo), .val (.int chp), .val (.int chq), .val (.int chr), .val (.int chs), .val (.int ((mo &&& (2147483647 : Int32)) % (5 : Int32))), .val (.ref a838), .val (.ref a838)] [(.int (Int32.ofNat (List.length (cs1963 : List Int32))))] B_ := fun t_ hh => k219 t_ (st2036.trans hh)
          clear k219 st2036 X2012 e2025
          have k221 : own_J p e below T2026 m 566 #[.val (.int av), .val (.int bv), .val (.int cv), .val (.int dv), .val (.int mo), .val (.int chp), .val (.int chq), .val (.int chr), .val (.int chs), .val (.int ((mo &&& (2147483647 : Int32)) % (5 : Int32))), .val (.ref a838), .val (.ref a838)] [(.ref a838), (.int (Int32.ofNat (List.length (cs1963 : List Int32))))] B_ := fun t_ hh => k220 t_ (by
            refine XS.aload X2030.here hx rfl (hb hby at_564) rfl rfl ?_
            exact hh)
          clear k220
          obtain ⟨cq2055, kq2056, qa2057, qb2058, qc2059⟩ := isOf hZ2014 e2042 F2019
          obtain ⟨_, _, ⟨T2044, L2045, k_2046, n_2047⟩, -, X2048, ⟨Lc2049, hQ2050, l_2051, y_2052, z_2053⟩, st2054⟩ := X2030.virtualBack hx (y := (⟨"java/lang/String", "length", "()I"⟩ : MethodName)) (z := (⟨"java/lang/String", "length", "()I"⟩ : MethodName)) hown2015 (mvT hZ2014 (wT hw 81 rfl)) (mvT hZ2014 (wT hw 43 rfl)) (notFace_of_selects (args := #[]) (mvT hZ2014 (wT hw 45 rfl))) (mvT hZ2014 (wT hw 45 rfl)) (mvT hZ2014 (wT hw 44 rfl)) (by decide) (StrChars.Road.lenW (W := 1) hZ2014 (fun d hd => hw d (own_sub_wordsLen d hd)) (kI := 4) (wT hw 15 rfl) S2024.1 S2024.2.1 S2024.2.2.1 S2024.2.2.2 (own_cod (fun c hc => own_ok_b8 (hp1964 c hc))) (fun c hc => ((fun c hc => own_ok_b8 (hp1964 c hc)) c hc).up) (Sta.ext O2023.2 sC) hc (own_lenl hl1965 (own_l rfl)) (by decide) (by decide)) qa2057 qc2059 (g := (mkF m 566 #[.val (.int av), .val (.int bv), .val (.int cv), .val (.int dv), .val (.int mo), .val (.int chp), .val (.int chq), .val (.int chr), .val (.int chs), .val (.int ((mo &&& (2147483647 : Int32)) % (5 : Int32))), .val (.ref a838), .val (.ref a838)] [(.ref a838), (.int (Int32.ofNat (List.length (cs1963 : List Int32))))])) rfl (by rw [hml]; rfl) (Steps.refl _) (argsL := []) (rest := [(.int (Int32.ofNat (List.length (cs1963 : List Int32))))]) (lenOf own_h179 rfl) rfl (by show 2 * 0 + _ ≤ _; exact Nat.le_of_eq rfl) (hb hby at_566) (fun _ _ => ⟨rfl, e2042, own_l rfl, own_l rfl⟩)
          dsimp only [Pt.U, Pt.locs, Pt.cells, Pt.slots] at X2048 l_2051 y_2052 z_2053 st2054 hQ2050
          replace l_2051 := l_2051.symm
          subst l_2051 y_2052 z_2053
          obtain ⟨rfl, rfl, e2060⟩ := hQ2050
          have N2061 := Fr.app N2043 (Fr.nil n0)
          have k222 : own_J p e below T2044 m 569 #[.val (.int av), .val (.int bv), .val (.int cv), .val (.int dv), .val (.int mo), .val (.int chp), .val (.int chq), .val (.int chr), .val (.int chs), .val (.int ((mo &&& (2147483647 : Int32)) % (5 : Int32))), .val (.ref a838), .val (.ref a838)] [(.int (Int32.ofNat (List.length (cs1963 : List Int32)))), (.int (Int32.ofNat (List.length (cs1963 : List Int32))))] B_ := fun t_ hh => k221 t_ (st2054.trans hh)
          clear k221 st2054 X2030 e2042
          have k223 : own_J p e below T2044 m 576 #[.val (.int av), .val (.int bv), .val (.int cv), .val (.int dv), .val (.int mo), .val (.int chp), .val (.int chq), .val (.int chr), .val (.int chs), .val (.int ((mo &&& (2147483647 : Int32)) % (5 : Int32))), .val (.ref a838), .val (.ref a838)] [(.ref a838), (.ref a838)] B_ := fun t_ hh => k222 t_ (by
            refine XS.icmpNo X2048.here hx rfl (hb hby at_569) rfl (own_icF_ne rfl) ?_
            refine XS.aload X2048.here hx rfl (hb hby at_572) rfl rfl ?_
            refine XS.aload X2048.here hx rfl (hb hby at_574) rfl rfl ?_
            exact hh)
          clear k222
          obtain ⟨cq2073, kq2074, qa2075, qb2076, qc2077⟩ := isOf hZ2014 e2060 F2019
          obtain ⟨_, _, ⟨T2062, L2063, k_2064, n_2065⟩, -, X2066, ⟨Lc2067, hQ2068, l_2069, y_2070, z_2071⟩, st2072⟩ := X2048.virtualBack hx (y := (⟨"java/lang/String", "equals", "(Ljava/lang/Object;)Z"⟩ : MethodName)) (z := (⟨"java/lang/String", "equals", "(Ljava/lang/Object;)Z"⟩ : MethodName)) hown2015 (mvT hZ2014 (wT hw 82 rfl)) (mvT hZ2014 (wT hw 83 rfl)) (notFace_of_selects (args := #[]) (mvT hZ2014 (wT hw 85 rfl))) (mvT hZ2014 (wT hw 85 rfl)) (mvT hZ2014 (wT hw 84 rfl)) (by decide) (backOf (W := 0) (rmEq l Z a0 hw [] a838 T1998.heap n0 Z2021) hZ2014 (wT hw 86 rfl) (wT hw 7 rfl) (by decide) (by decide)) qa2075 qc2077 (g := (mkF m 576 #[.val (.int av), .val (.int bv), .val (.int cv), .val (.int dv), .val (.int mo), .val (.int chp), .val (.int chq), .val (.int chr), .val (.int chs), .val (.int ((mo &&& (2147483647 : Int32)) % (5 : Int32))), .val (.ref a838), .val (.ref a838)] [(.ref a838), (.ref a838)])) rfl (by rw [hml]; rfl) (Steps.refl _) (argsL := [(.ref a838)]) (rest := []) (lenOf own_h185 rfl) rfl (by show 2 * 0 + _ ≤ _; exact Nat.le_of_eq rfl) (hb hby at_576) (fun _ _ => ⟨rfl, e2060, own_l rfl, own_l rfl⟩)
          dsimp only [Pt.U, Pt.locs, Pt.cells, Pt.slots] at X2066 l_2069 y_2070 z_2071 st2072 hQ2068
          replace l_2069 := l_2069.symm
          subst l_2069 y_2070 z_2071
          obtain ⟨rfl, N2078, e2079⟩ := hQ2068
          have N2080 := Fr.app N2061 N2078
          have k224 : own_J p e below T2062 m 579 #[.val (.int av), .val (.int bv), .val (.int cv), .val (.int dv), .val (.int mo), .val (.int chp), .val (.int chq), .val (.int chr), .val (.int chs), .val (.int ((mo &&& (2147483647 : Int32)) % (5 : Int32))), .val (.ref a838), .val (.ref a838)] [(.int (1 : Int32))] B_ := fun t_ hh => k223 t_ (st2072.trans hh)
          clear k223 st2072 X2048 e2060
          have k225 : own_J p e below T2062 m 587 #[.val (.int av), .val (.int bv), .val (.int cv), .val (.int dv), .val (.int mo), .val (.int chp), .val (.int chq), .val (.int chr), .val (.int chs), .val (.int ((mo &&& (2147483647 : Int32)) % (5 : Int32))), .val (.ref a838), .val (.ref a838)] [(.int (1 : Int32))] B_ := fun t_ hh => k224 t_ (by
            refine XS.ifNo X2066.here hx rfl (hb hby at_579) rfl (by decide) ?_
            refine XS.iconst X2066.here hx rfl (hb hby at_582) ?_
            refine XS.goto X2066.here hx rfl (pc0 := 583) (pc' := 587) rfl (hb hby at_583) (by decide) (by decide) ?_
            exact hh)
          clear k224
          obtain ⟨fs, hr, hrun, hended, hEnd⟩ := X2066.leaveW hS2013 (by rw [e2079]; exact (Nat.le_refl T1998.heap.size)) (v := some (.int (1 : Int32))) (fun h => by rw [Bd.returns] at h; cases h)
          refine ⟨_, _, (own_from hB_ (k225 _ (retN X2066 hx (t := .boolean) Bd.returns (by simp) (hb hby at_587) hr))), hrun, hended, _, _, rfl, ?_, hEnd.1, hEnd.2.1, hEnd.2.2.1, hEnd.2.2.2.mono (own_l rfl) (own_l rfl)⟩
          show QL h0 n0 _ T2062.heap _
          rw [e2079]
          exact ⟨rfl, N2080⟩
set_option maxRecDepth 65536 in
set_option maxHeartbeats 40000000 in
theorem comes_1 {Post : Tables → Env → Array Value → State → Outcome → State → Prop} (hpost : ∀ tb e args s v u, (limb_1_1.after args s (.returned v) u = true ∧ limb_1_2.after args s (.returned v) u = true ∧ True) → ReturnedEndW s (.returned v) u (Jvm.fieldLocs frame_1_writes args s ++ Jvm.arrayLocs frame_1_arrays args s ++ Jvm.staticLocs frame_1_statics s) 16 1408 → Post tb e args s (.returned v) u) :
    ArmFor flags0 classFile x code maxLocals ret World_1 tables_1 room_1 Calls_1 rest_1 Pre_1 Post := by
  intro l hfl _ _ p e ha hc hk s m args below hf hA hF happ hP
  obtain ⟨hcalls, hrest, hpre⟩ := hP
  obtain ⟨-, -, -, hnamed, -, -, -, hat⟩ := (Spec.applies_iff hf).mp happ
  obtain ⟨hg, hn⟩ := and_e (Cond.before_iff.mp (show (Jvm.Cond.and given_1 narrow_1).before args s = true from hpre))
  obtain ⟨h1, g0⟩ := and_e hg
  obtain ⟨j0, g1⟩ := and_e g0
  obtain ⟨j1, g2⟩ := and_e g1
  obtain ⟨j2, g3⟩ := and_e g2
  obtain ⟨j3, g4⟩ := and_e g3
  have j4 := g4
  obtain ⟨w0, w1, w2, w3, w4, rfl⟩ : ∃ w0 w1 w2 w3 w4 : Value, args = #[w0, w1, w2, w3, w4] := by
    have hs : args.size = 5 := by simpa [Cond.value, given_1] using h1
    obtain ⟨L⟩ := args
    match L, hs with
    | [w0, w1, w2, w3, w4], _ => exact ⟨w0, w1, w2, w3, w4, rfl⟩
  have hw := fun d (hd : d ∈ tables_1) => atoms_spec (ws := Jvm.Cond.code x code maxLocals ret :: tables_1) hat d (List.mem_cons_of_mem _ hd)
  have hfit : Fit s := fun {y c} hc i hi => by
    obtain ⟨ha, rfl⟩ := Array.getElem?_eq_some_iff.mp hc
    have q := List.all_eq_true.mp ((Array.all_eq_true_iff_forall_mem.mp hF) _ (Array.getElem_mem ha)) i (List.mem_range.mpr hi)
    simpa [Array.getElem?_eq_getElem hi] using q
  obtain ⟨i0, q0⟩ := is_v j0
  obtain rfl : w0 = (.int i0) := Option.some.inj q0
  obtain ⟨i1, q1⟩ := is_v j1
  obtain rfl : w1 = (.int i1) := Option.some.inj q1
  obtain ⟨i2, q2⟩ := is_v j2
  obtain rfl : w2 = (.int i2) := Option.some.inj q2
  obtain ⟨i3, q3⟩ := is_v j3
  obtain rfl : w3 = (.int i3) := Option.some.inj q3
  obtain ⟨i4, q4⟩ := is_v j4
  obtain rfl : w4 = (.int i4) := Option.some.inj q4
  obtain ⟨hsets, hown0⟩ := atoms_of _ (rest_1_c_eq ▸ (show rest_1_c.before _ s = true from hrest))
  have n5 := not_v (Cond.before_iff.mp (hsets _ (List.mem_of_getElem? (i := 2) rfl)))
  obtain ⟨ci, eci⟩ := is_v (Cond.before_iff.mp (hsets _ (List.mem_of_getElem? (i := 1) rfl)))
  have sC : Sta s s.heap "java/lang/String" "COMPACT_STRINGS" "Z" (.int ci) := Sta.start eci (Or.inl (hsets _ (List.mem_of_getElem? (i := 0) rfl)))
  obtain ⟨gv, egv, hg⟩ := isR_v (Cond.before_iff.mp (hsets _ (List.mem_of_getElem? (i := 8) rfl)))
  have sG : Sta s s.heap "jdk/internal/util/Preconditions" "SIOOBE_FORMATTER" "Ljava/util/function/BiFunction;" gv := Sta.start egv (Or.inl (hsets _ (List.mem_of_getElem? (i := 7) rfl)))
  have hc0 : ¬ ci = 0 := gotF (Cond.eq_ints eci (Term.int_eval 0)) n5
  obtain ⟨n, o, h1, h2, h3, _, L, rfl, ⟨rfl, N⟩, hq⟩ := rmL l s _ hw tables_1 i0 i1 i2 i3 i4 s.heap s.heap.size (Nat.le_refl _) (Old.start s) ci sC hc0 gv sG hg p e ha hc hk s m _ below hf ((Spec.applies_iff_loose hf).mp happ).1 ⟨rfl, State.Warmed39.refl s, rfl⟩ trivial
  refine ⟨n, _, h1, h2, h3, hpost _ _ _ _ _ _ ⟨Cond.after_iff.mpr rfl, Cond.after_iff.mpr (eq_i res_at (Term.int_eval (1)) rfl), trivial⟩ ⟨hq.1, hq.2.1, hq.2.2.1, (hq.2.2.2.sift fun y hy => Or.inr (N y hy)).mono (by decide) (by decide)⟩⟩
theorem main_1_1 : Claimed_1_1 := comes_1 fun _ _ _ _ _ _ h hF => ⟨h.1, hF⟩
theorem main_1_2 : Claimed_1_2 := comes_1 fun _ _ _ _ _ _ h hF => ⟨h.2.1, hF⟩
end Jvm.Pilot.@@N@@
namespace Jvm.Pilot.@@N@@
open Jvm Jvm.ClassFile Sem Op Lib Jvm.Free Jvm.Stand Jvm.Pilot.@@N@@.Jvm.D
/-! MADE BY PROGRAM (witnessworld.py) out of the Statement's table words and the real class files: 21 classes; the members and pool entries that the words name. The judged class is class 1, her method 2. -/
namespace start1
open Jvm.ClassFile
def u (s : String) : CpInfo := .utf8 (stringToUtf16 s)
/-- a pool by its gaps: so many unusable entries, then the entry; so many at the end -/
def gap : Nat → List CpInfo → List CpInfo
  | 0, r => r
  | n + 1, r => .unusable :: gap n r
def poolList (es : List (Nat × CpInfo)) (last : Nat) : List CpInfo := es.foldr (fun e r => gap e.1 (e.2 :: r)) (gap last [])
def pool (es : List (Nat × CpInfo)) (last : Nat) : Array CpInfo := ⟨poolList es last⟩
def fileOf (pool : Array CpInfo) (this : Nat) (attrs : Array Attribute := #[]) (ms : Array MethodInfo := #[]) (fl : Nat := 33) (sup : Nat := 0) (ifs : Array Nat := #[]) (fds : Array FieldInfo := #[]) : ClassFile where
  minorVersion := 0
  majorVersion := 65
  constantPool := pool
  accessFlags := fl
  thisClass := this
  superClass := sup
  interfaces := ifs
  fields := fds
  methods := ms
  attributes := attrs
def plain (name : String) (sup : Option ClassId) : Class where
  name := name
  kind := .ordinary
  loader := none
  accessFlags := 33
  super := sup
  interfaces := #[]
  cf := none
  fields := #[]
  methods := #[]
  instanceTypes := #[]
  staticTypes := #[]
  resolved := #[]
  callSites := []
  init := .initialized
  statics := none
  mirror := none

def pool0 : Array CpInfo := pool [(5, u "<init>"), (0, u "()V"), (1, .class_ 10), (1, u "java/lang/Object")] 113

def k0c0 : Code := { maxStack := 0, maxLocals := 1, code := object_method_1_code, exceptionTable := #[], attributes := #[] }
def k0m0 : Method := { name := "<init>", desc := "()V", sig := { parameters := [], returnType := none }, accessFlags := 1, code := some k0c0 }
/-- java/lang/Object -/
def k0 : Class := { plain "java/lang/Object" none with
  accessFlags := 33
  interfaces := #[]
  cf := some (fileOf pool0 8 #[] #[{ accessFlags := 1, nameIndex := 5, descriptorIndex := 6, attributes := #[] }] 33 0 #[] #[])
  fields := #[]
  methods := #[k0m0]
  instanceTypes := #[]
  staticTypes := #[]
  resolved := Array.replicate 124 none
  statics := none }

def pool1 : Array CpInfo := pool [(2, .class_ 4), (1, u "java/lang/Object"), (0, u "<init>"), (0, u "()V"), (0, .integer 2147483647), (0, .methodref 9 10), (0, .class_ 11), (0, .nameAndType 12 13), (0, u "com/example/tidying/tidying/PoolNamesRequireValidPinLaw"), (0, u "allowed"), (0, u "(I)C"), (0, .methodref 15 16), (0, .class_ 17), (0, .nameAndType 18 19), (0, u "java/lang/String"), (0, u "valueOf"), (0, u "(C)Ljava/lang/String;"), (0, .methodref 15 21), (0, .nameAndType 5 22), (0, u "([C)V"), (0, .methodref 24 25), (0, .class_ 26), (0, .nameAndType 27 28), (0, u "com/example/tidying/tidying/PoolNames"), (0, u "requireValid"), (0, u "(Ljava/lang/String;)Ljava/lang/String;"), (0, .methodref 15 30), (0, .nameAndType 31 32), (0, u "length"), (0, u "()I"), (0, .methodref 15 34), (0, .nameAndType 35 36), (0, u "equals"), (0, u "(Ljava/lang/Object;)Z"), (3, u "law"), (0, u "(IIIII)Z")] 2

def k1m0 : Method := { name := "<init>", desc := "()V", sig := { parameters := [], returnType := none }, accessFlags := 2, code := none }
def k1c1 : Code := { maxStack := 3, maxLocals := 2, code := method_2_code, exceptionTable := #[], attributes := #[] }
def k1m1 : Method := { name := "allowed", desc := "(I)C", sig := { parameters := [.int], returnType := some .char }, accessFlags := 10, code := some k1c1 }
def k1c2 : Code := { maxStack := 6, maxLocals := 12, code := code, exceptionTable := #[], attributes := #[] }
def k1m2 : Method := { name := "law", desc := "(IIIII)Z", sig := { parameters := [.int, .int, .int, .int, .int], returnType := some .boolean }, accessFlags := 9, code := some k1c2 }
/-- com/example/tidying/tidying/PoolNamesRequireValidPinLaw -/
def k1 : Class := { plain "com/example/tidying/tidying/PoolNamesRequireValidPinLaw" (some 0) with
  accessFlags := 49
  interfaces := #[]
  cf := some (fileOf pool1 9 #[] #[{ accessFlags := 2, nameIndex := 5, descriptorIndex := 6, attributes := #[] }, { accessFlags := 10, nameIndex := 12, descriptorIndex := 13, attributes := #[] }, { accessFlags := 9, nameIndex := 40, descriptorIndex := 41, attributes := #[] }] 49 2 #[] #[])
  fields := #[]
  methods := #[k1m0, k1m1, k1m2]
  instanceTypes := #[]
  staticTypes := #[]
  resolved := Array.replicate 44 none
  statics := none }

def pool2 : Array CpInfo := pool [(1, .class_ 2), (0, u "java/io/Serializable"), (0, .class_ 4), (0, u "java/lang/Object")] 2

/-- java/io/Serializable -/
def k2 : Class := { plain "java/io/Serializable" (some 0) with
  accessFlags := 1537
  interfaces := #[]
  cf := some (fileOf pool2 1 #[] #[] 1537 3 #[] #[])
  fields := #[]
  methods := #[]
  instanceTypes := #[]
  staticTypes := #[]
  resolved := Array.replicate 7 none
  statics := none }

def pool3 : Array CpInfo := pool [(1, .class_ 2), (0, u "java/lang/Comparable"), (0, .class_ 4), (0, u "java/lang/Object")] 7

/-- java/lang/Comparable -/
def k3 : Class := { plain "java/lang/Comparable" (some 0) with
  accessFlags := 1537
  interfaces := #[]
  cf := some (fileOf pool3 1 #[] #[] 1537 3 #[] #[])
  fields := #[]
  methods := #[]
  instanceTypes := #[]
  staticTypes := #[]
  resolved := Array.replicate 12 none
  statics := none }

def pool4 : Array CpInfo := pool [(2, .class_ 4), (1, u "java/lang/CharSequence"), (42, .class_ 48), (0, u "java/lang/CharSequence$1CodePointIterator"), (10, .class_ 60), (0, u "java/lang/CharSequence$1CharIterator"), (5, .class_ 67), (0, u "java/lang/Object")] 63

/-- java/lang/CharSequence -/
def k4 : Class := { plain "java/lang/CharSequence" (some 0) with
  accessFlags := 1537
  interfaces := #[]
  cf := some (fileOf pool4 2 #[.nestMembers #[47, 59]] #[] 1537 66 #[] #[])
  fields := #[]
  methods := #[]
  instanceTypes := #[]
  staticTypes := #[]
  resolved := Array.replicate 131 none
  statics := none }

def pool5 : Array CpInfo := pool [(1, .class_ 2), (0, u "java/lang/constant/Constable"), (0, .class_ 4), (0, u "java/lang/Object")] 6

/-- java/lang/constant/Constable -/
def k5 : Class := { plain "java/lang/constant/Constable" (some 0) with
  accessFlags := 1537
  interfaces := #[]
  cf := some (fileOf pool5 1 #[] #[] 1537 3 #[] #[])
  fields := #[]
  methods := #[]
  instanceTypes := #[]
  staticTypes := #[]
  resolved := Array.replicate 11 none
  statics := none }

def pool6 : Array CpInfo := pool [(1, .class_ 2), (0, u "java/lang/constant/ConstantDesc"), (0, .class_ 4), (0, u "java/lang/Object")] 32

/-- java/lang/constant/ConstantDesc -/
def k6 : Class := { plain "java/lang/constant/ConstantDesc" (some 0) with
  accessFlags := 1537
  interfaces := #[]
  cf := some (fileOf pool6 1 #[] #[] 1537 3 #[] #[])
  fields := #[]
  methods := #[]
  instanceTypes := #[]
  staticTypes := #[]
  resolved := Array.replicate 37 none
  statics := none }

def pool7 : Array CpInfo := pool [(1, .methodref 2 3), (0, .class_ 4), (0, .nameAndType 5 6), (0, u "java/lang/Object"), (0, u "<init>"), (0, u "()V"), (2, .fieldref 10 11), (0, .class_ 12), (0, .nameAndType 13 14), (0, u "java/lang/String"), (0, u "value"), (0, u "[B"), (0, .fieldref 10 16), (0, .nameAndType 17 18), (0, u "coder"), (0, u "B"), (2, u "hash"), (0, u "I"), (2, u "hashIsZero"), (0, u "Z"), (0, .methodref 10 28), (0, .nameAndType 5 29), (0, u "([CIILjava/lang/Void;)V"), (8, .fieldref 10 39), (0, .nameAndType 40 26), (0, u "COMPACT_STRINGS"), (1, .class_ 44), (1, u "java/lang/StringUTF16"), (0, u "compress"), (1, .methodref 42 48), (0, .nameAndType 49 50), (0, u "coderFromArrayLen"), (0, u "([BI)B"), (2, u "toBytes"), (53, .class_ 109), (1, u "java/lang/StringLatin1"), (32, u "()Z"), (34, .methodref 42 178), (0, .nameAndType 45 179), (0, u "([CII)[B"), (29, .methodref 10 210), (0, .nameAndType 5 211), (0, u "([BB)V"), (122, u "()I"), (0, .methodref 10 336), (0, .nameAndType 17 337), (0, u "()B"), (25, u "([BI)C"), (5, u "(C)Z"), (21, u "(II)V"), (35, u "(I)C"), (64, .methodref 10 493), (0, .nameAndType 494 142), (0, u "isLatin1"), (0, .methodref 107 496), (0, .nameAndType 497 363), (0, u "charAt"), (3, u "checkIndex"), (5, u "length"), (35, u "equals"), (29, u "(Ljava/lang/Object;)Z"), (1, .class_ 576), (0, u "java/lang/CharSequence"), (22, u "CASE_INSENSITIVE_ORDER"), (0, u "Ljava/util/Comparator;"), (91, u "isEmpty"), (89, u "valueOf"), (0, u "(C)Ljava/lang/String;"), (226, u "([C)V"), (4, .methodref 107 1016), (0, .nameAndType 1017 369), (0, u "canEncode"), (0, .methodref 107 1019), (0, .nameAndType 53 1020), (0, u "(C)[B"), (32, .fieldref 1054 1055), (0, .class_ 1056), (0, .nameAndType 1057 1058), (0, u "jdk/internal/util/Preconditions"), (0, u "SIOOBE_FORMATTER"), (0, u "Ljava/util/function/BiFunction;"), (0, .methodref 1054 1060), (0, .nameAndType 501 1061), (0, u "(IILjava/util/function/BiFunction;)I"), (39, u "serialPersistentFields"), (0, u "[Ljava/io/ObjectStreamField;"), (0, .class_ 1104), (0, u "java/lang/String$CaseInsensitiveComparator"), (1, .class_ 1107), (0, u "java/io/Serializable"), (0, .class_ 1109), (0, u "java/lang/Comparable"), (0, .class_ 1111), (0, u "java/lang/constant/Constable"), (0, .class_ 1113), (0, u "java/lang/constant/ConstantDesc"), (2, u "serialVersionUID"), (0, u "J"), (3, u "REPL"), (0, u "C"), (2, u "LATIN1"), (1, u "UTF16")] 323

def k7m0 : Method := { name := "<init>", desc := "()V", sig := { parameters := [], returnType := none }, accessFlags := 1, code := none }
def k7c1 : Code := { maxStack := 5, maxLocals := 2, code := jdk_42_method_3_code, exceptionTable := #[], attributes := #[] }
def k7m1 : Method := { name := "<init>", desc := "([C)V", sig := { parameters := [(.array .char)], returnType := none }, accessFlags := 1, code := some k7c1 }
def k7c2 : Code := { maxStack := 2, maxLocals := 1, code := jdk_42_method_54_code, exceptionTable := #[], attributes := #[] }
def k7m2 : Method := { name := "length", desc := "()I", sig := { parameters := [], returnType := some .int }, accessFlags := 1, code := some k7c2 }
def k7c3 : Code := { maxStack := 1, maxLocals := 1, code := jdk_42_method_55_code, exceptionTable := #[], attributes := #[] }
def k7m3 : Method := { name := "isEmpty", desc := "()Z", sig := { parameters := [], returnType := some .boolean }, accessFlags := 1, code := some k7c3 }
def k7c4 : Code := { maxStack := 2, maxLocals := 2, code := jdk_42_method_56_code, exceptionTable := #[], attributes := #[] }
def k7m4 : Method := { name := "charAt", desc := "(I)C", sig := { parameters := [.int], returnType := some .char }, accessFlags := 1, code := some k7c4 }
def k7c5 : Code := { maxStack := 2, maxLocals := 3, code := jdk_42_method_66_code, exceptionTable := #[], attributes := #[] }
def k7m5 : Method := { name := "equals", desc := "(Ljava/lang/Object;)Z", sig := { parameters := [(.object "java/lang/Object")], returnType := some .boolean }, accessFlags := 1, code := some k7c5 }
def k7c6 : Code := { maxStack := 4, maxLocals := 1, code := jdk_42_method_139_code, exceptionTable := #[], attributes := #[] }
def k7m6 : Method := { name := "valueOf", desc := "(C)Ljava/lang/String;", sig := { parameters := [.char], returnType := some (.object "java/lang/String") }, accessFlags := 9, code := some k7c6 }
def k7c7 : Code := { maxStack := 4, maxLocals := 6, code := jdk_42_method_149_code, exceptionTable := #[], attributes := #[] }
def k7m7 : Method := { name := "<init>", desc := "([CIILjava/lang/Void;)V", sig := { parameters := [(.array .char), .int, .int, (.object "java/lang/Void")], returnType := none }, accessFlags := 2, code := some k7c7 }
def k7c8 : Code := { maxStack := 2, maxLocals := 3, code := jdk_42_method_151_code, exceptionTable := #[], attributes := #[] }
def k7m8 : Method := { name := "<init>", desc := "([BB)V", sig := { parameters := [(.array .byte), .byte], returnType := none }, accessFlags := 0, code := some k7c8 }
def k7c9 : Code := { maxStack := 1, maxLocals := 1, code := jdk_42_method_152_code, exceptionTable := #[], attributes := #[] }
def k7m9 : Method := { name := "coder", desc := "()B", sig := { parameters := [], returnType := some .byte }, accessFlags := 0, code := some k7c9 }
def k7c10 : Code := { maxStack := 1, maxLocals := 1, code := jdk_42_method_154_code, exceptionTable := #[], attributes := #[] }
def k7m10 : Method := { name := "isLatin1", desc := "()Z", sig := { parameters := [], returnType := some .boolean }, accessFlags := 0, code := some k7c10 }
def k7c11 : Code := { maxStack := 3, maxLocals := 2, code := jdk_42_method_155_code, exceptionTable := #[], attributes := #[] }
def k7m11 : Method := { name := "checkIndex", desc := "(II)V", sig := { parameters := [.int, .int], returnType := none }, accessFlags := 8, code := some k7c11 }
/-- java/lang/String -/
def k7 : Class := { plain "java/lang/String" (some 0) with
  accessFlags := 49
  interfaces := #[2, 3, 4, 5, 6]
  cf := some (fileOf pool7 10 #[.nestMembers #[1103]] #[{ accessFlags := 1, nameIndex := 5, descriptorIndex := 6, attributes := #[] }, { accessFlags := 1, nameIndex := 5, descriptorIndex := 1010, attributes := #[] }, { accessFlags := 1, nameIndex := 507, descriptorIndex := 334, attributes := #[] }, { accessFlags := 1, nameIndex := 692, descriptorIndex := 142, attributes := #[] }, { accessFlags := 1, nameIndex := 497, descriptorIndex := 427, attributes := #[] }, { accessFlags := 1, nameIndex := 543, descriptorIndex := 573, attributes := #[] }, { accessFlags := 9, nameIndex := 782, descriptorIndex := 783, attributes := #[] }, { accessFlags := 2, nameIndex := 5, descriptorIndex := 29, attributes := #[] }, { accessFlags := 0, nameIndex := 5, descriptorIndex := 211, attributes := #[] }, { accessFlags := 0, nameIndex := 17, descriptorIndex := 337, attributes := #[] }, { accessFlags := 0, nameIndex := 494, descriptorIndex := 142, attributes := #[] }, { accessFlags := 8, nameIndex := 501, descriptorIndex := 391, attributes := #[] }] 49 2 #[1106, 1108, 575, 1110, 1112] #[{ accessFlags := 18, nameIndex := 13, descriptorIndex := 14, attributes := #[] }, { accessFlags := 18, nameIndex := 17, descriptorIndex := 18, attributes := #[] }, { accessFlags := 2, nameIndex := 21, descriptorIndex := 22, attributes := #[] }, { accessFlags := 2, nameIndex := 25, descriptorIndex := 26, attributes := #[] }, { accessFlags := 26, nameIndex := 1116, descriptorIndex := 1117, attributes := #[] }, { accessFlags := 24, nameIndex := 40, descriptorIndex := 26, attributes := #[] }, { accessFlags := 26, nameIndex := 1101, descriptorIndex := 1102, attributes := #[] }, { accessFlags := 26, nameIndex := 1121, descriptorIndex := 1122, attributes := #[] }, { accessFlags := 25, nameIndex := 599, descriptorIndex := 600, attributes := #[] }, { accessFlags := 24, nameIndex := 1125, descriptorIndex := 18, attributes := #[] }, { accessFlags := 24, nameIndex := 1127, descriptorIndex := 18, attributes := #[] }])
  fields := #[{ name := "value", type := (.array .byte), accessFlags := 18, slot := 0, constantValue := 0 }, { name := "coder", type := .byte, accessFlags := 18, slot := 1, constantValue := 0 }, { name := "hash", type := .int, accessFlags := 2, slot := 2, constantValue := 0 }, { name := "hashIsZero", type := .boolean, accessFlags := 2, slot := 3, constantValue := 0 }, { name := "serialVersionUID", type := .long, accessFlags := 26, slot := 0, constantValue := 0 }, { name := "COMPACT_STRINGS", type := .boolean, accessFlags := 24, slot := 1, constantValue := 0 }, { name := "serialPersistentFields", type := (.array (.object "java/io/ObjectStreamField")), accessFlags := 26, slot := 2, constantValue := 0 }, { name := "REPL", type := .char, accessFlags := 26, slot := 3, constantValue := 0 }, { name := "CASE_INSENSITIVE_ORDER", type := (.object "java/util/Comparator"), accessFlags := 25, slot := 4, constantValue := 0 }, { name := "LATIN1", type := .byte, accessFlags := 24, slot := 5, constantValue := 0 }, { name := "UTF16", type := .byte, accessFlags := 24, slot := 6, constantValue := 0 }]
  methods := #[k7m0, k7m1, k7m2, k7m3, k7m4, k7m5, k7m6, k7m7, k7m8, k7m9, k7m10, k7m11]
  instanceTypes := #[(.array .byte), .byte, .int, .boolean]
  staticTypes := #[.long, .boolean, (.array (.object "java/io/ObjectStreamField")), .char, (.object "java/util/Comparator"), .byte, .byte]
  resolved := Array.replicate 1451 none
  statics := some 0 }

def pool8 : Array CpInfo := pool [(1, .class_ 2), (0, u "java/lang/String"), (1, .class_ 6), (1, u "java/lang/Object"), (0, u "<init>"), (0, u "()V"), (0, .methodref 1 10), (0, .nameAndType 11 12), (0, u "checkIndex"), (0, u "(II)V"), (1, .class_ 16), (1, u "java/lang/StringLatin1"), (36, u "([BI)C"), (36, u "canEncode"), (14, u "(C)Z"), (15, u "$assertionsDisabled"), (0, u "Z"), (98, .class_ 223), (1, u "java/lang/StringLatin1$LinesSpliterator"), (28, u "charAt"), (127, u "toBytes"), (1, u "(C)[B"), (7, .class_ 391), (0, u "java/lang/StringLatin1$CharsSpliterator")] 3

def k8m0 : Method := { name := "<init>", desc := "()V", sig := { parameters := [], returnType := none }, accessFlags := 0, code := none }
def k8c1 : Code := { maxStack := 2, maxLocals := 2, code := jdk_43_method_2_code, exceptionTable := #[], attributes := #[] }
def k8m1 : Method := { name := "charAt", desc := "([BI)C", sig := { parameters := [(.array .byte), .int], returnType := some .char }, accessFlags := 9, code := some k8c1 }
def k8c2 : Code := { maxStack := 2, maxLocals := 1, code := jdk_43_method_3_code, exceptionTable := #[], attributes := #[] }
def k8m2 : Method := { name := "canEncode", desc := "(C)Z", sig := { parameters := [.char], returnType := some .boolean }, accessFlags := 9, code := some k8c2 }
def k8c3 : Code := { maxStack := 4, maxLocals := 1, code := jdk_43_method_46_code, exceptionTable := #[], attributes := #[] }
def k8m3 : Method := { name := "toBytes", desc := "(C)[B", sig := { parameters := [.char], returnType := some (.array .byte) }, accessFlags := 9, code := some k8c3 }
/-- java/lang/StringLatin1 -/
def k8 : Class := { plain "java/lang/StringLatin1" (some 0) with
  accessFlags := 48
  interfaces := #[]
  cf := some (fileOf pool8 14 #[.nestMembers #[390, 221]] #[{ accessFlags := 0, nameIndex := 7, descriptorIndex := 8, attributes := #[] }, { accessFlags := 9, nameIndex := 252, descriptorIndex := 53, attributes := #[] }, { accessFlags := 9, nameIndex := 90, descriptorIndex := 105, attributes := #[] }, { accessFlags := 9, nameIndex := 380, descriptorIndex := 382, attributes := #[] }] 48 4 #[] #[{ accessFlags := 4120, nameIndex := 121, descriptorIndex := 122, attributes := #[] }])
  fields := #[{ name := "$assertionsDisabled", type := .boolean, accessFlags := 4120, slot := 0, constantValue := 0 }]
  methods := #[k8m0, k8m1, k8m2, k8m3]
  instanceTypes := #[]
  staticTypes := #[.boolean]
  resolved := Array.replicate 395 none
  statics := none }

def pool9 : Array CpInfo := pool [(2, .class_ 4), (1, u "java/lang/Object"), (0, u "<init>"), (0, u "()V"), (0, .string 8), (0, u "pool name"), (0, .methodref 10 11), (0, .class_ 12), (0, .nameAndType 13 14), (0, u "java/util/Objects"), (0, u "requireNonNull"), (0, u "(Ljava/lang/Object;Ljava/lang/String;)Ljava/lang/Object;"), (0, .methodref 16 17), (0, .class_ 18), (0, .nameAndType 19 20), (0, u "java/lang/String"), (0, u "length"), (0, u "()I"), (0, .methodref 16 22), (0, .nameAndType 23 24), (0, u "charAt"), (0, u "(I)C"), (0, .methodref 26 27), (0, .class_ 28), (0, .nameAndType 29 30), (0, u "com/example/tidying/tidying/PoolNames"), (0, u "isAllowed"), (0, u "(C)Z"), (21, .methodref 16 53), (0, .nameAndType 54 55), (0, u "isEmpty"), (0, u "()Z"), (4, u "MAX_LENGTH"), (0, u "I"), (4, u "requireValid"), (0, u "(Ljava/lang/String;)Ljava/lang/String;")] 18

def k9m0 : Method := { name := "<init>", desc := "()V", sig := { parameters := [], returnType := none }, accessFlags := 2, code := none }
def k9c1 : Code := { maxStack := 8, maxLocals := 2, code := prog_3_method_2_code, exceptionTable := #[], attributes := #[] }
def k9m1 : Method := { name := "requireValid", desc := "(Ljava/lang/String;)Ljava/lang/String;", sig := { parameters := [(.object "java/lang/String")], returnType := some (.object "java/lang/String") }, accessFlags := 8, code := some k9c1 }
def k9c2 : Code := { maxStack := 2, maxLocals := 1, code := prog_3_method_3_code, exceptionTable := #[], attributes := #[] }
def k9m2 : Method := { name := "isAllowed", desc := "(C)Z", sig := { parameters := [.char], returnType := some .boolean }, accessFlags := 10, code := some k9c2 }
/-- com/example/tidying/tidying/PoolNames -/
def k9 : Class := { plain "com/example/tidying/tidying/PoolNames" (some 0) with
  accessFlags := 32
  interfaces := #[]
  cf := some (fileOf pool9 26 #[] #[{ accessFlags := 2, nameIndex := 5, descriptorIndex := 6, attributes := #[] }, { accessFlags := 8, nameIndex := 66, descriptorIndex := 67, attributes := #[] }, { accessFlags := 10, nameIndex := 29, descriptorIndex := 30, attributes := #[] }] 32 2 #[] #[{ accessFlags := 26, nameIndex := 60, descriptorIndex := 61, attributes := #[] }])
  fields := #[{ name := "MAX_LENGTH", type := .int, accessFlags := 26, slot := 0, constantValue := 0 }]
  methods := #[k9m0, k9m1, k9m2]
  instanceTypes := #[]
  staticTypes := #[.int]
  resolved := Array.replicate 86 none
  statics := none }

def pool10 : Array CpInfo := pool [(2, .class_ 4), (1, u "java/lang/Object"), (0, u "<init>"), (0, u "()V"), (35, .class_ 44), (1, u "java/util/Objects"), (0, u "requireNonNull"), (48, u "(Ljava/lang/Object;Ljava/lang/String;)Ljava/lang/Object;")] 89

def k10m0 : Method := { name := "<init>", desc := "()V", sig := { parameters := [], returnType := none }, accessFlags := 2, code := none }
def k10c1 : Code := { maxStack := 3, maxLocals := 2, code := jdk_31_method_11_code, exceptionTable := #[], attributes := #[] }
def k10m1 : Method := { name := "requireNonNull", desc := "(Ljava/lang/Object;Ljava/lang/String;)Ljava/lang/Object;", sig := { parameters := [(.object "java/lang/Object"), (.object "java/lang/String")], returnType := some (.object "java/lang/Object") }, accessFlags := 9, code := some k10c1 }
/-- java/util/Objects -/
def k10 : Class := { plain "java/util/Objects" (some 0) with
  accessFlags := 49
  interfaces := #[]
  cf := some (fileOf pool10 42 #[] #[{ accessFlags := 2, nameIndex := 5, descriptorIndex := 6, attributes := #[] }, { accessFlags := 9, nameIndex := 45, descriptorIndex := 94, attributes := #[] }] 49 2 #[] #[])
  fields := #[]
  methods := #[k10m0, k10m1]
  instanceTypes := #[]
  staticTypes := #[]
  resolved := Array.replicate 184 none
  statics := none }

def pool11 : Array CpInfo := pool [(2, .class_ 4), (1, u "java/lang/Object"), (0, u "<init>"), (0, u "()V"), (17, .class_ 26), (1, u "jdk/internal/util/Preconditions"), (6, u "checkIndex"), (21, .class_ 56), (0, u "jdk/internal/util/Preconditions$4"), (57, .class_ 115), (0, u "jdk/internal/util/Preconditions$1"), (7, u "SIOOBE_FORMATTER"), (0, u "Ljava/util/function/BiFunction;"), (0, .class_ 126), (0, u "jdk/internal/util/Preconditions$2"), (3, u "AIOOBE_FORMATTER"), (0, .class_ 132), (0, u "jdk/internal/util/Preconditions$3"), (3, u "IOOBE_FORMATTER"), (41, u "(IILjava/util/function/BiFunction;)I")] 15

def k11m0 : Method := { name := "<init>", desc := "()V", sig := { parameters := [], returnType := none }, accessFlags := 1, code := none }
def k11c1 : Code := { maxStack := 3, maxLocals := 3, code := jdk_41_method_11_code, exceptionTable := #[], attributes := #[] }
def k11m1 : Method := { name := "checkIndex", desc := "(IILjava/util/function/BiFunction;)I", sig := { parameters := [.int, .int, (.object "java/util/function/BiFunction")], returnType := some .int }, accessFlags := 9, code := some k11c1 }
/-- jdk/internal/util/Preconditions -/
def k11 : Class := { plain "jdk/internal/util/Preconditions" (some 0) with
  accessFlags := 33
  interfaces := #[]
  cf := some (fileOf pool11 24 #[.nestMembers #[55, 131, 125, 114]] #[{ accessFlags := 1, nameIndex := 5, descriptorIndex := 6, attributes := #[] }, { accessFlags := 9, nameIndex := 33, descriptorIndex := 178, attributes := #[] }] 33 2 #[] #[{ accessFlags := 25, nameIndex := 123, descriptorIndex := 124, attributes := #[] }, { accessFlags := 25, nameIndex := 130, descriptorIndex := 124, attributes := #[] }, { accessFlags := 25, nameIndex := 136, descriptorIndex := 124, attributes := #[] }])
  fields := #[{ name := "SIOOBE_FORMATTER", type := (.object "java/util/function/BiFunction"), accessFlags := 25, slot := 0, constantValue := 0 }, { name := "AIOOBE_FORMATTER", type := (.object "java/util/function/BiFunction"), accessFlags := 25, slot := 1, constantValue := 0 }, { name := "IOOBE_FORMATTER", type := (.object "java/util/function/BiFunction"), accessFlags := 25, slot := 2, constantValue := 0 }]
  methods := #[k11m0, k11m1]
  instanceTypes := #[]
  staticTypes := #[(.object "java/util/function/BiFunction"), (.object "java/util/function/BiFunction"), (.object "java/util/function/BiFunction")]
  resolved := Array.replicate 194 none
  statics := some 1 }

def pool12 : Array CpInfo := pool [(6, .class_ 8), (1, u "java/lang/Object"), (0, u "<init>"), (0, u "()V"), (1, .class_ 14), (1, u "java/lang/StringUTF16"), (31, u "$assertionsDisabled"), (0, u "Z"), (13, u "HI_BYTE_SHIFT"), (0, u "I"), (2, u "LO_BYTE_SHIFT"), (49, .methodref 12 116), (0, .nameAndType 117 118), (0, u "compress"), (0, u "([CI[BII)I"), (3, u "([CII)[B"), (138, u "coderFromArrayLen"), (0, u "([BI)B"), (106, .class_ 371), (1, u "java/lang/StringUTF16$LinesSpliterator"), (58, u "MAX_LENGTH"), (196, .class_ 628), (0, u "java/lang/StringUTF16$CodePointsSpliterator"), (0, .class_ 630), (0, u "java/lang/StringUTF16$CharsSpliterator")] 4

def k12m0 : Method := { name := "<init>", desc := "()V", sig := { parameters := [], returnType := none }, accessFlags := 0, code := none }
def k12c1 : Code := { maxStack := 2, maxLocals := 2, code := jdk_52_method_15_code, exceptionTable := #[], attributes := #[] }
def k12m1 : Method := { name := "coderFromArrayLen", desc := "([BI)B", sig := { parameters := [(.array .byte), .int], returnType := some .byte }, accessFlags := 8, code := some k12c1 }
def k12c2 : Code := { maxStack := 5, maxLocals := 6, code := jdk_52_method_16_code, exceptionTable := #[], attributes := #[] }
def k12m2 : Method := { name := "compress", desc := "([CII)[B", sig := { parameters := [(.array .char), .int, .int], returnType := some (.array .byte) }, accessFlags := 9, code := some k12c2 }
def k12c3 : Code := { maxStack := 3, maxLocals := 7, code := jdk_52_method_21_code, exceptionTable := #[], attributes := #[] }
def k12m3 : Method := { name := "compress", desc := "([CI[BII)I", sig := { parameters := [(.array .char), .int, (.array .byte), .int, .int], returnType := some .int }, accessFlags := 9, code := some k12c3 }
/-- java/lang/StringUTF16 -/
def k12 : Class := { plain "java/lang/StringUTF16" (some 0) with
  accessFlags := 48
  interfaces := #[]
  cf := some (fileOf pool12 12 #[.nestMembers #[627, 629, 369]] #[{ accessFlags := 0, nameIndex := 9, descriptorIndex := 10, attributes := #[] }, { accessFlags := 8, nameIndex := 261, descriptorIndex := 262, attributes := #[] }, { accessFlags := 9, nameIndex := 117, descriptorIndex := 122, attributes := #[] }, { accessFlags := 9, nameIndex := 117, descriptorIndex := 118, attributes := #[] }] 48 6 #[] #[{ accessFlags := 26, nameIndex := 61, descriptorIndex := 62, attributes := #[] }, { accessFlags := 26, nameIndex := 65, descriptorIndex := 62, attributes := #[] }, { accessFlags := 24, nameIndex := 430, descriptorIndex := 62, attributes := #[] }, { accessFlags := 4120, nameIndex := 46, descriptorIndex := 47, attributes := #[] }])
  fields := #[{ name := "HI_BYTE_SHIFT", type := .int, accessFlags := 26, slot := 0, constantValue := 0 }, { name := "LO_BYTE_SHIFT", type := .int, accessFlags := 26, slot := 1, constantValue := 0 }, { name := "MAX_LENGTH", type := .int, accessFlags := 24, slot := 2, constantValue := 0 }, { name := "$assertionsDisabled", type := .boolean, accessFlags := 4120, slot := 3, constantValue := 0 }]
  methods := #[k12m0, k12m1, k12m2, k12m3]
  instanceTypes := #[]
  staticTypes := #[.int, .int, .int, .boolean]
  resolved := Array.replicate 635 none
  statics := none }

def pool13 : Array CpInfo := pool [(9, u "<init>"), (6, .class_ 18), (1, u "java/lang/Object"), (0, u "()V"), (1, .class_ 23), (1, u "jdk/internal/util/ArraysSupport"), (0, u "LOG2_ARRAY_LONG_INDEX_SCALE"), (0, u "I"), (2, u "U"), (0, u "Ljdk/internal/misc/Unsafe;"), (8, u "BIG_ENDIAN"), (0, u "Z"), (8, u "LOG2_BYTE_BIT_SIZE"), (4, u "LOG2_ARRAY_INT_INDEX_SCALE"), (54, u "JLA"), (0, u "Ljdk/internal/access/JavaLangAccess;"), (11, u "LOG2_ARRAY_BOOLEAN_INDEX_SCALE"), (9, u "LOG2_ARRAY_BYTE_INDEX_SCALE"), (5, u "LOG2_ARRAY_CHAR_INDEX_SCALE"), (5, u "LOG2_ARRAY_SHORT_INDEX_SCALE"), (18, u "LOG2_ARRAY_FLOAT_INDEX_SCALE"), (24, u "LOG2_ARRAY_DOUBLE_INDEX_SCALE"), (89, u "T_BOOLEAN"), (2, u "T_CHAR"), (1, u "T_FLOAT"), (1, u "T_DOUBLE"), (1, u "T_BYTE"), (1, u "T_SHORT"), (1, u "T_INT"), (1, u "T_LONG"), (1, u "SOFT_MAX_ARRAY_LENGTH")] 83

def k13m0 : Method := { name := "<init>", desc := "()V", sig := { parameters := [], returnType := none }, accessFlags := 2, code := none }
/-- jdk/internal/util/ArraysSupport -/
def k13 : Class := { plain "jdk/internal/util/ArraysSupport" (some 0) with
  accessFlags := 33
  interfaces := #[]
  cf := some (fileOf pool13 21 #[] #[{ accessFlags := 2, nameIndex := 9, descriptorIndex := 19, attributes := #[] }] 33 16 #[] #[{ accessFlags := 24, nameIndex := 28, descriptorIndex := 29, attributes := #[] }, { accessFlags := 26, nameIndex := 38, descriptorIndex := 39, attributes := #[] }, { accessFlags := 25, nameIndex := 121, descriptorIndex := 25, attributes := #[] }, { accessFlags := 25, nameIndex := 131, descriptorIndex := 25, attributes := #[] }, { accessFlags := 25, nameIndex := 137, descriptorIndex := 25, attributes := #[] }, { accessFlags := 25, nameIndex := 143, descriptorIndex := 25, attributes := #[] }, { accessFlags := 25, nameIndex := 53, descriptorIndex := 25, attributes := #[] }, { accessFlags := 25, nameIndex := 24, descriptorIndex := 25, attributes := #[] }, { accessFlags := 25, nameIndex := 162, descriptorIndex := 25, attributes := #[] }, { accessFlags := 25, nameIndex := 187, descriptorIndex := 25, attributes := #[] }, { accessFlags := 26, nameIndex := 48, descriptorIndex := 25, attributes := #[] }, { accessFlags := 25, nameIndex := 277, descriptorIndex := 25, attributes := #[] }, { accessFlags := 25, nameIndex := 280, descriptorIndex := 25, attributes := #[] }, { accessFlags := 25, nameIndex := 282, descriptorIndex := 25, attributes := #[] }, { accessFlags := 25, nameIndex := 284, descriptorIndex := 25, attributes := #[] }, { accessFlags := 25, nameIndex := 286, descriptorIndex := 25, attributes := #[] }, { accessFlags := 25, nameIndex := 288, descriptorIndex := 25, attributes := #[] }, { accessFlags := 25, nameIndex := 290, descriptorIndex := 25, attributes := #[] }, { accessFlags := 25, nameIndex := 292, descriptorIndex := 25, attributes := #[] }, { accessFlags := 26, nameIndex := 108, descriptorIndex := 109, attributes := #[] }, { accessFlags := 25, nameIndex := 294, descriptorIndex := 25, attributes := #[] }])
  fields := #[{ name := "U", type := (.object "jdk/internal/misc/Unsafe"), accessFlags := 24, slot := 0, constantValue := 0 }, { name := "BIG_ENDIAN", type := .boolean, accessFlags := 26, slot := 1, constantValue := 0 }, { name := "LOG2_ARRAY_BOOLEAN_INDEX_SCALE", type := .int, accessFlags := 25, slot := 2, constantValue := 0 }, { name := "LOG2_ARRAY_BYTE_INDEX_SCALE", type := .int, accessFlags := 25, slot := 3, constantValue := 0 }, { name := "LOG2_ARRAY_CHAR_INDEX_SCALE", type := .int, accessFlags := 25, slot := 4, constantValue := 0 }, { name := "LOG2_ARRAY_SHORT_INDEX_SCALE", type := .int, accessFlags := 25, slot := 5, constantValue := 0 }, { name := "LOG2_ARRAY_INT_INDEX_SCALE", type := .int, accessFlags := 25, slot := 6, constantValue := 0 }, { name := "LOG2_ARRAY_LONG_INDEX_SCALE", type := .int, accessFlags := 25, slot := 7, constantValue := 0 }, { name := "LOG2_ARRAY_FLOAT_INDEX_SCALE", type := .int, accessFlags := 25, slot := 8, constantValue := 0 }, { name := "LOG2_ARRAY_DOUBLE_INDEX_SCALE", type := .int, accessFlags := 25, slot := 9, constantValue := 0 }, { name := "LOG2_BYTE_BIT_SIZE", type := .int, accessFlags := 26, slot := 10, constantValue := 0 }, { name := "T_BOOLEAN", type := .int, accessFlags := 25, slot := 11, constantValue := 0 }, { name := "T_CHAR", type := .int, accessFlags := 25, slot := 12, constantValue := 0 }, { name := "T_FLOAT", type := .int, accessFlags := 25, slot := 13, constantValue := 0 }, { name := "T_DOUBLE", type := .int, accessFlags := 25, slot := 14, constantValue := 0 }, { name := "T_BYTE", type := .int, accessFlags := 25, slot := 15, constantValue := 0 }, { name := "T_SHORT", type := .int, accessFlags := 25, slot := 16, constantValue := 0 }, { name := "T_INT", type := .int, accessFlags := 25, slot := 17, constantValue := 0 }, { name := "T_LONG", type := .int, accessFlags := 25, slot := 18, constantValue := 0 }, { name := "JLA", type := (.object "jdk/internal/access/JavaLangAccess"), accessFlags := 26, slot := 19, constantValue := 0 }, { name := "SOFT_MAX_ARRAY_LENGTH", type := .int, accessFlags := 25, slot := 20, constantValue := 0 }]
  methods := #[k13m0]
  instanceTypes := #[]
  staticTypes := #[(.object "jdk/internal/misc/Unsafe"), .boolean, .int, .int, .int, .int, .int, .int, .int, .int, .int, .int, .int, .int, .int, .int, .int, .int, .int, (.object "jdk/internal/access/JavaLangAccess"), .int]
  resolved := Array.replicate 378 none
  statics := none }

def pool14 : Array CpInfo := pool [(1, u "java/lang/Cloneable"), (0, .class_ 1), (0, u "java/lang/Object"), (0, .class_ 3)] 3

/-- java/lang/Cloneable -/
def k14 : Class := { plain "java/lang/Cloneable" (some 0) with
  accessFlags := 1537
  interfaces := #[]
  cf := some (fileOf pool14 2 #[] #[] 1537 4 #[] #[])
  fields := #[]
  methods := #[]
  instanceTypes := #[]
  staticTypes := #[]
  resolved := Array.replicate 8 none
  statics := none }

/-- the primitive byte -/
def k15 : Class := { plain "byte" none with kind := .primitive 'B', accessFlags := 0x411 }
/-- [B -/
def k16 : Class := { plain "[B" (some 0) with kind := .array 15 .byte, interfaces := #[14, 2], accessFlags := 1041 }

/-- the primitive char -/
def k17 : Class := { plain "char" none with kind := .primitive 'C', accessFlags := 0x411 }
/-- [C -/
def k18 : Class := { plain "[C" (some 0) with kind := .array 17 .char, interfaces := #[14, 2], accessFlags := 1041 }

/-- the primitive int -/
def k19 : Class := { plain "int" none with kind := .primitive 'I', accessFlags := 0x411 }
/-- [I -/
def k20 : Class := { plain "[I" (some 0) with kind := .array 19 .int, interfaces := #[14, 2], accessFlags := 1041 }

def heap : Heap := #[{ cls := 7, slots := #[.long 0, .int 1, .null, .int 0, .null, .int 0, .int 0], vm := .statics 7 },
  { cls := 11, slots := #[.null, .null, .null], vm := .statics 11 }]
def classes : Array Class := #[k0, k1, k2, k3, k4, k5, k6, k7, k8, k9, k10, k11, k12, k13, k14, k15, k16, k17, k18, k19, k20]
def interned : List (Array UInt16 × Addr) := []
def slotsUsed : Nat := 10
def theMethod : MethodId := ⟨1, 2⟩
def args0 : Array Value := #[.int 5, .int 3, .int 7, .int 1, .int 2]
def aboutOver (below : List Frame) : State where
  vm := { classes := classes, interned := interned.toArray }
  heap := heap
  slotsUsed := slotsUsed
  threads := #[{ frames := .invoking theMethod args0 :: below }]
def below0 : List Frame := [.native { method := ⟨0, 0⟩, args := #[] }]
def about1 : State := aboutOver below0
def p0 : Program := .bare "" "" ""
def e0 : Env := launch0.env 0 0 0
theorem w_frames : about1.frames = Frame.invoking theMethod args0 :: below0 := rfl
set_option maxRecDepth 65536 in
theorem w_args : argsFit about1.vm theMethod args0 = true := by decide +kernel
set_option maxRecDepth 65536 in
theorem w_heap : heapFits about1 = true := by decide +kernel
set_option maxRecDepth 65536 in
theorem w_runnable : about1.curStatus? = some .runnable := by decide +kernel
set_option maxRecDepth 65536 in
theorem w_alone : about1.alone = true := by decide +kernel
set_option maxRecDepth 65536 in
theorem w_named : about1.methodNamed? x = some theMethod := by decide +kernel
set_option maxRecDepth 65536 in
theorem w_hears : about1.hears theMethod below0 = true := by decide +kernel
set_option maxRecDepth 65536 in
theorem w_ripe : about1.ripe theMethod args0 below0 = true := by decide +kernel
theorem w_running : about1.status = .running := rfl
set_option maxRecDepth 65536 in
theorem w_room : about1.hasRoom e0.platform room_1 = true :=
  launch0.hasRoom_least _ room_1 (by decide +kernel) (by decide +kernel) (by decide +kernel) (by decide +kernel) (by decide +kernel) (by decide +kernel)
theorem allAtoms_all (ts : List Jvm.Cond) (a : Array Jvm.Value) (st : Jvm.State) : (allAtoms ts).before a st = ts.all (fun c => c.before a st) := by
  induction ts with
  | nil => rfl
  | cons c t ih =>
    show (Jvm.Cond.and c (allAtoms t)).before a st = _
    rw [Jvm.Cond.before_and, ih, List.all_cons]
def words1 : List Jvm.Cond := Jvm.Cond.code x code maxLocals ret :: tables_1
/-- a 'code' word, met by the world's own term for the bytes: nothing is compared byte by byte -/
theorem code_word {y : MethodName} {bytes : ByteArray} {mx : Nat} {rt : Option FieldType} {a : Array Value} {s : State} {m : MethodId} {meth : Method} {c : Code} (h1 : s.methodNamed? y = some m) (h2 : s.vm.method? m = some meth) (h3 : meth.code = some c) (h4 : c.code = bytes)
    (h5 : (c.maxLocals == mx && c.exceptionTable.isEmpty && decide (c.maxStack ≤ mostOperands) && decide (meth.sig.returnType = rt) && !meth.locks && decide (parseMethodDescriptor y.desc = some meth.sig)) = true) : (Jvm.Cond.code y bytes mx rt).before a s = true := by
  simp only [Bool.and_eq_true, beq_iff_eq, Bool.not_eq_true', decide_eq_true_eq] at h5
  obtain ⟨⟨⟨⟨⟨g1, g2⟩, g3⟩, g4⟩, g5⟩, g6⟩ := h5
  simp [Cond.before, Cond.holds, Cond.value, h1, h2, h3, h4, g1, g2, g3, g4, g5, g6]
def isCode : Jvm.Cond → Bool
  | .code _ _ _ _ => true
  | _ => false
theorem all_split {L : List Jvm.Cond} {P : Jvm.Cond → Bool} (h1 : L.all (fun c => isCode c || P c) = true) (h2 : ∀ c ∈ L.filter isCode, P c = true) : L.all P = true := by
  refine List.all_eq_true.mpr fun c hc => ?_
  have h := List.all_eq_true.mp h1 c hc
  rcases Bool.eq_false_or_eq_true (isCode c) with hi | hi
  · exact h2 c (List.mem_filter.mpr ⟨hc, hi⟩)
  · simpa [hi] using h
set_option maxRecDepth 65536 in
theorem w_c0 : (Jvm.Cond.code x code maxLocals ret).before args0 about1 = true := code_word (m := ⟨1, 2⟩) (meth := k1m2) (c := k1c2) (by decide +kernel) rfl rfl rfl (by decide +kernel)
set_option maxRecDepth 65536 in
theorem w_c1 : (Jvm.Cond.code ({ cls := "com/example/tidying/tidying/PoolNamesRequireValidPinLaw", name := "allowed", desc := "(I)C" } : Jvm.MethodName) method_2_code (2 : Nat) (Option.some Jvm.ClassFile.FieldType.char)).before args0 about1 = true := code_word (m := ⟨1, 1⟩) (meth := k1m1) (c := k1c1) (by decide +kernel) rfl rfl rfl (by decide +kernel)
set_option maxRecDepth 65536 in
theorem w_c2 : (Jvm.Cond.code ({ cls := "java/lang/String", name := "valueOf", desc := "(C)Ljava/lang/String;" } : Jvm.MethodName) jdk_42_method_139_code (1 : Nat) (Option.some (Jvm.ClassFile.FieldType.object "java/lang/String"))).before args0 about1 = true := code_word (m := ⟨7, 6⟩) (meth := k7m6) (c := k7c6) (by decide +kernel) rfl rfl rfl (by decide +kernel)
set_option maxRecDepth 65536 in
theorem w_c3 : (Jvm.Cond.code ({ cls := "java/lang/StringLatin1", name := "canEncode", desc := "(C)Z" } : Jvm.MethodName) jdk_43_method_3_code (1 : Nat) (Option.some Jvm.ClassFile.FieldType.boolean)).before args0 about1 = true := code_word (m := ⟨8, 2⟩) (meth := k8m2) (c := k8c2) (by decide +kernel) rfl rfl rfl (by decide +kernel)
set_option maxRecDepth 65536 in
theorem w_c4 : (Jvm.Cond.code ({ cls := "java/lang/StringLatin1", name := "toBytes", desc := "(C)[B" } : Jvm.MethodName) jdk_43_method_46_code (1 : Nat) (Option.some (Jvm.ClassFile.FieldType.array Jvm.ClassFile.FieldType.byte))).before args0 about1 = true := code_word (m := ⟨8, 3⟩) (meth := k8m3) (c := k8c3) (by decide +kernel) rfl rfl rfl (by decide +kernel)
set_option maxRecDepth 65536 in
theorem w_c5 : (Jvm.Cond.code ({ cls := "java/lang/String", name := "<init>", desc := "([BB)V" } : Jvm.MethodName) jdk_42_method_151_code (3 : Nat) (Option.none : Option Jvm.ClassFile.FieldType)).before args0 about1 = true := code_word (m := ⟨7, 8⟩) (meth := k7m8) (c := k7c8) (by decide +kernel) rfl rfl rfl (by decide +kernel)
set_option maxRecDepth 65536 in
theorem w_c6 : (Jvm.Cond.code ({ cls := "java/lang/Object", name := "<init>", desc := "()V" } : Jvm.MethodName) object_method_1_code (1 : Nat) (Option.none : Option Jvm.ClassFile.FieldType)).before args0 about1 = true := code_word (m := ⟨0, 0⟩) (meth := k0m0) (c := k0c0) (by decide +kernel) rfl rfl rfl (by decide +kernel)
set_option maxRecDepth 65536 in
theorem w_c7 : (Jvm.Cond.code ({ cls := "com/example/tidying/tidying/PoolNames", name := "requireValid", desc := "(Ljava/lang/String;)Ljava/lang/String;" } : Jvm.MethodName) prog_3_method_2_code (2 : Nat) (Option.some (Jvm.ClassFile.FieldType.object "java/lang/String"))).before args0 about1 = true := code_word (m := ⟨9, 1⟩) (meth := k9m1) (c := k9c1) (by decide +kernel) rfl rfl rfl (by decide +kernel)
set_option maxRecDepth 65536 in
theorem w_c8 : (Jvm.Cond.code ({ cls := "java/util/Objects", name := "requireNonNull", desc := "(Ljava/lang/Object;Ljava/lang/String;)Ljava/lang/Object;" } : Jvm.MethodName) jdk_31_method_11_code (2 : Nat) (Option.some (Jvm.ClassFile.FieldType.object "java/lang/Object"))).before args0 about1 = true := code_word (m := ⟨10, 1⟩) (meth := k10m1) (c := k10c1) (by decide +kernel) rfl rfl rfl (by decide +kernel)
set_option maxRecDepth 65536 in
theorem w_c9 : (Jvm.Cond.code ({ cls := "java/lang/String", name := "length", desc := "()I" } : Jvm.MethodName) jdk_42_method_54_code (1 : Nat) (Option.some Jvm.ClassFile.FieldType.int)).before args0 about1 = true := code_word (m := ⟨7, 2⟩) (meth := k7m2) (c := k7c2) (by decide +kernel) rfl rfl rfl (by decide +kernel)
set_option maxRecDepth 65536 in
theorem w_c10 : (Jvm.Cond.code ({ cls := "java/lang/String", name := "coder", desc := "()B" } : Jvm.MethodName) jdk_42_method_152_code (1 : Nat) (Option.some Jvm.ClassFile.FieldType.byte)).before args0 about1 = true := code_word (m := ⟨7, 9⟩) (meth := k7m9) (c := k7c9) (by decide +kernel) rfl rfl rfl (by decide +kernel)
set_option maxRecDepth 65536 in
theorem w_c11 : (Jvm.Cond.code ({ cls := "java/lang/String", name := "charAt", desc := "(I)C" } : Jvm.MethodName) jdk_42_method_56_code (2 : Nat) (Option.some Jvm.ClassFile.FieldType.char)).before args0 about1 = true := code_word (m := ⟨7, 4⟩) (meth := k7m4) (c := k7c4) (by decide +kernel) rfl rfl rfl (by decide +kernel)
set_option maxRecDepth 65536 in
theorem w_c12 : (Jvm.Cond.code ({ cls := "java/lang/String", name := "isLatin1", desc := "()Z" } : Jvm.MethodName) jdk_42_method_154_code (1 : Nat) (Option.some Jvm.ClassFile.FieldType.boolean)).before args0 about1 = true := code_word (m := ⟨7, 10⟩) (meth := k7m10) (c := k7c10) (by decide +kernel) rfl rfl rfl (by decide +kernel)
set_option maxRecDepth 65536 in
theorem w_c13 : (Jvm.Cond.code ({ cls := "java/lang/StringLatin1", name := "charAt", desc := "([BI)C" } : Jvm.MethodName) jdk_43_method_2_code (2 : Nat) (Option.some Jvm.ClassFile.FieldType.char)).before args0 about1 = true := code_word (m := ⟨8, 1⟩) (meth := k8m1) (c := k8c1) (by decide +kernel) rfl rfl rfl (by decide +kernel)
set_option maxRecDepth 65536 in
theorem w_c14 : (Jvm.Cond.code ({ cls := "java/lang/String", name := "checkIndex", desc := "(II)V" } : Jvm.MethodName) jdk_42_method_155_code (2 : Nat) (Option.none : Option Jvm.ClassFile.FieldType)).before args0 about1 = true := code_word (m := ⟨7, 11⟩) (meth := k7m11) (c := k7c11) (by decide +kernel) rfl rfl rfl (by decide +kernel)
set_option maxRecDepth 65536 in
theorem w_c15 : (Jvm.Cond.code ({ cls := "jdk/internal/util/Preconditions", name := "checkIndex", desc := "(IILjava/util/function/BiFunction;)I" } : Jvm.MethodName) jdk_41_method_11_code (3 : Nat) (Option.some Jvm.ClassFile.FieldType.int)).before args0 about1 = true := code_word (m := ⟨11, 1⟩) (meth := k11m1) (c := k11c1) (by decide +kernel) rfl rfl rfl (by decide +kernel)
set_option maxRecDepth 65536 in
theorem w_c16 : (Jvm.Cond.code ({ cls := "com/example/tidying/tidying/PoolNames", name := "isAllowed", desc := "(C)Z" } : Jvm.MethodName) prog_3_method_3_code (1 : Nat) (Option.some Jvm.ClassFile.FieldType.boolean)).before args0 about1 = true := code_word (m := ⟨9, 2⟩) (meth := k9m2) (c := k9c2) (by decide +kernel) rfl rfl rfl (by decide +kernel)
set_option maxRecDepth 65536 in
theorem w_c17 : (Jvm.Cond.code ({ cls := "java/lang/String", name := "isEmpty", desc := "()Z" } : Jvm.MethodName) jdk_42_method_55_code (1 : Nat) (Option.some Jvm.ClassFile.FieldType.boolean)).before args0 about1 = true := code_word (m := ⟨7, 3⟩) (meth := k7m3) (c := k7c3) (by decide +kernel) rfl rfl rfl (by decide +kernel)
set_option maxRecDepth 65536 in
theorem w_c18 : (Jvm.Cond.code ({ cls := "java/lang/String", name := "equals", desc := "(Ljava/lang/Object;)Z" } : Jvm.MethodName) jdk_42_method_66_code (3 : Nat) (Option.some Jvm.ClassFile.FieldType.boolean)).before args0 about1 = true := code_word (m := ⟨7, 5⟩) (meth := k7m5) (c := k7c5) (by decide +kernel) rfl rfl rfl (by decide +kernel)
set_option maxRecDepth 65536 in
theorem w_c19 : (Jvm.Cond.code ({ cls := "java/lang/String", name := "<init>", desc := "([C)V" } : Jvm.MethodName) jdk_42_method_3_code (2 : Nat) (Option.none : Option Jvm.ClassFile.FieldType)).before args0 about1 = true := code_word (m := ⟨7, 1⟩) (meth := k7m1) (c := k7c1) (by decide +kernel) rfl rfl rfl (by decide +kernel)
set_option maxRecDepth 65536 in
theorem w_c20 : (Jvm.Cond.code ({ cls := "java/lang/String", name := "<init>", desc := "([CIILjava/lang/Void;)V" } : Jvm.MethodName) jdk_42_method_149_code (6 : Nat) (Option.none : Option Jvm.ClassFile.FieldType)).before args0 about1 = true := code_word (m := ⟨7, 7⟩) (meth := k7m7) (c := k7c7) (by decide +kernel) rfl rfl rfl (by decide +kernel)
set_option maxRecDepth 65536 in
theorem w_c21 : (Jvm.Cond.code ({ cls := "java/lang/StringUTF16", name := "compress", desc := "([CII)[B" } : Jvm.MethodName) jdk_52_method_16_code (6 : Nat) (Option.some (Jvm.ClassFile.FieldType.array Jvm.ClassFile.FieldType.byte))).before args0 about1 = true := code_word (m := ⟨12, 2⟩) (meth := k12m2) (c := k12c2) (by decide +kernel) rfl rfl rfl (by decide +kernel)
set_option maxRecDepth 65536 in
theorem w_c22 : (Jvm.Cond.code ({ cls := "java/lang/StringUTF16", name := "compress", desc := "([CI[BII)I" } : Jvm.MethodName) jdk_52_method_21_code (7 : Nat) (Option.some Jvm.ClassFile.FieldType.int)).before args0 about1 = true := code_word (m := ⟨12, 3⟩) (meth := k12m3) (c := k12c3) (by decide +kernel) rfl rfl rfl (by decide +kernel)
set_option maxRecDepth 65536 in
theorem w_c23 : (Jvm.Cond.code ({ cls := "java/lang/StringUTF16", name := "coderFromArrayLen", desc := "([BI)B" } : Jvm.MethodName) jdk_52_method_15_code (2 : Nat) (Option.some Jvm.ClassFile.FieldType.byte)).before args0 about1 = true := code_word (m := ⟨12, 1⟩) (meth := k12m1) (c := k12c1) (by decide +kernel) rfl rfl rfl (by decide +kernel)
def codes1 : List Jvm.Cond := [Jvm.Cond.code x code maxLocals ret, Jvm.Cond.code ({ cls := "com/example/tidying/tidying/PoolNamesRequireValidPinLaw", name := "allowed", desc := "(I)C" } : Jvm.MethodName) method_2_code (2 : Nat) (Option.some Jvm.ClassFile.FieldType.char), Jvm.Cond.code ({ cls := "java/lang/String", name := "valueOf", desc := "(C)Ljava/lang/String;" } : Jvm.MethodName) jdk_42_method_139_code (1 : Nat) (Option.some (Jvm.ClassFile.FieldType.object "java/lang/String")), Jvm.Cond.code ({ cls := "java/lang/StringLatin1", name := "canEncode", desc := "(C)Z" } : Jvm.MethodName) jdk_43_method_3_code (1 : Nat) (Option.some Jvm.ClassFile.FieldType.boolean), Jvm.Cond.code ({ cls := "java/lang/StringLatin1", name := "toBytes", desc := "(C)[B" } : Jvm.MethodName) jdk_43_method_46_code (1 : Nat) (Option.some (Jvm.ClassFile.FieldType.array Jvm.ClassFile.FieldType.byte)), Jvm.Cond.code ({ cls := "java/lang/String", name := "<init>", desc := "([BB)V" } : Jvm.MethodName) jdk_42_method_151_code (3 : Nat) (Option.none : Option Jvm.ClassFile.FieldType), Jvm.Cond.code ({ cls := "java/lang/Object", name := "<init>", desc := "()V" } : Jvm.MethodName) object_method_1_code (1 : Nat) (Option.none : Option Jvm.ClassFile.FieldType), Jvm.Cond.code ({ cls := "com/example/tidying/tidying/PoolNames", name := "requireValid", desc := "(Ljava/lang/String;)Ljava/lang/String;" } : Jvm.MethodName) prog_3_method_2_code (2 : Nat) (Option.some (Jvm.ClassFile.FieldType.object "java/lang/String")), Jvm.Cond.code ({ cls := "java/util/Objects", name := "requireNonNull", desc := "(Ljava/lang/Object;Ljava/lang/String;)Ljava/lang/Object;" } : Jvm.MethodName) jdk_31_method_11_code (2 : Nat) (Option.some (Jvm.ClassFile.FieldType.object "java/lang/Object")), Jvm.Cond.code ({ cls := "java/lang/String", name := "length", desc := "()I" } : Jvm.MethodName) jdk_42_method_54_code (1 : Nat) (Option.some Jvm.ClassFile.FieldType.int), Jvm.Cond.code ({ cls := "java/lang/String", name := "coder", desc := "()B" } : Jvm.MethodName) jdk_42_method_152_code (1 : Nat) (Option.some Jvm.ClassFile.FieldType.byte), Jvm.Cond.code ({ cls := "java/lang/String", name := "charAt", desc := "(I)C" } : Jvm.MethodName) jdk_42_method_56_code (2 : Nat) (Option.some Jvm.ClassFile.FieldType.char), Jvm.Cond.code ({ cls := "java/lang/String", name := "isLatin1", desc := "()Z" } : Jvm.MethodName) jdk_42_method_154_code (1 : Nat) (Option.some Jvm.ClassFile.FieldType.boolean), Jvm.Cond.code ({ cls := "java/lang/StringLatin1", name := "charAt", desc := "([BI)C" } : Jvm.MethodName) jdk_43_method_2_code (2 : Nat) (Option.some Jvm.ClassFile.FieldType.char), Jvm.Cond.code ({ cls := "java/lang/String", name := "checkIndex", desc := "(II)V" } : Jvm.MethodName) jdk_42_method_155_code (2 : Nat) (Option.none : Option Jvm.ClassFile.FieldType), Jvm.Cond.code ({ cls := "jdk/internal/util/Preconditions", name := "checkIndex", desc := "(IILjava/util/function/BiFunction;)I" } : Jvm.MethodName) jdk_41_method_11_code (3 : Nat) (Option.some Jvm.ClassFile.FieldType.int), Jvm.Cond.code ({ cls := "com/example/tidying/tidying/PoolNames", name := "isAllowed", desc := "(C)Z" } : Jvm.MethodName) prog_3_method_3_code (1 : Nat) (Option.some Jvm.ClassFile.FieldType.boolean), Jvm.Cond.code ({ cls := "java/lang/String", name := "isEmpty", desc := "()Z" } : Jvm.MethodName) jdk_42_method_55_code (1 : Nat) (Option.some Jvm.ClassFile.FieldType.boolean), Jvm.Cond.code ({ cls := "java/lang/String", name := "equals", desc := "(Ljava/lang/Object;)Z" } : Jvm.MethodName) jdk_42_method_66_code (3 : Nat) (Option.some Jvm.ClassFile.FieldType.boolean), Jvm.Cond.code ({ cls := "java/lang/String", name := "<init>", desc := "([C)V" } : Jvm.MethodName) jdk_42_method_3_code (2 : Nat) (Option.none : Option Jvm.ClassFile.FieldType), Jvm.Cond.code ({ cls := "java/lang/String", name := "<init>", desc := "([CIILjava/lang/Void;)V" } : Jvm.MethodName) jdk_42_method_149_code (6 : Nat) (Option.none : Option Jvm.ClassFile.FieldType), Jvm.Cond.code ({ cls := "java/lang/StringUTF16", name := "compress", desc := "([CII)[B" } : Jvm.MethodName) jdk_52_method_16_code (6 : Nat) (Option.some (Jvm.ClassFile.FieldType.array Jvm.ClassFile.FieldType.byte)), Jvm.Cond.code ({ cls := "java/lang/StringUTF16", name := "compress", desc := "([CI[BII)I" } : Jvm.MethodName) jdk_52_method_21_code (7 : Nat) (Option.some Jvm.ClassFile.FieldType.int), Jvm.Cond.code ({ cls := "java/lang/StringUTF16", name := "coderFromArrayLen", desc := "([BI)B" } : Jvm.MethodName) jdk_52_method_15_code (2 : Nat) (Option.some Jvm.ClassFile.FieldType.byte)]
set_option maxRecDepth 65536 in
theorem codes_eq : words1.filter isCode = codes1 := rfl
theorem w_codes : ∀ c ∈ words1.filter isCode, c.before args0 about1 = true := by
  rw [codes_eq]
  intro c hc
  simp only [codes1, List.mem_cons, List.not_mem_nil, or_false] at hc
  rcases hc with rfl | rfl | rfl | rfl | rfl | rfl | rfl | rfl | rfl | rfl | rfl | rfl | rfl | rfl | rfl | rfl | rfl | rfl | rfl | rfl | rfl | rfl | rfl | rfl
  · exact w_c0
  · exact w_c1
  · exact w_c2
  · exact w_c3
  · exact w_c4
  · exact w_c5
  · exact w_c6
  · exact w_c7
  · exact w_c8
  · exact w_c9
  · exact w_c10
  · exact w_c11
  · exact w_c12
  · exact w_c13
  · exact w_c14
  · exact w_c15
  · exact w_c16
  · exact w_c17
  · exact w_c18
  · exact w_c19
  · exact w_c20
  · exact w_c21
  · exact w_c22
  · exact w_c23
set_option maxRecDepth 65536 in
theorem w_t1 : (words1.take 24).all (fun c => isCode c || c.before args0 about1) = true := by decide +kernel
set_option maxRecDepth 65536 in
theorem w_t2 : ((words1.drop 24).take 24).all (fun c => isCode c || c.before args0 about1) = true := by decide +kernel
set_option maxRecDepth 65536 in
theorem w_t3 : (((words1.drop 24).drop 24).take 24).all (fun c => isCode c || c.before args0 about1) = true := by decide +kernel
set_option maxRecDepth 65536 in
theorem w_t4 : ((((words1.drop 24).drop 24).drop 24).take 24).all (fun c => isCode c || c.before args0 about1) = true := by decide +kernel
set_option maxRecDepth 65536 in
theorem w_t5 : ((((words1.drop 24).drop 24).drop 24).drop 24).all (fun c => isCode c || c.before args0 about1) = true := by decide +kernel
theorem w_tables : (allAtoms (Jvm.Cond.code x code maxLocals ret :: tables_1)).before args0 about1 = true := by
  rw [allAtoms_all]
  show words1.all (fun c => c.before args0 about1) = true
  refine all_split ?_ w_codes
  rw [← List.take_append_drop 24 words1, List.all_append, w_t1, ← List.take_append_drop 24 (words1.drop 24), List.all_append, w_t2, ← List.take_append_drop 24 ((words1.drop 24).drop 24), List.all_append, w_t3, ← List.take_append_drop 24 (((words1.drop 24).drop 24).drop 24), List.all_append, w_t4, w_t5]
  rfl
set_option maxRecDepth 65536 in
theorem w_rest : rest_1_c.before args0 about1 = true := by decide +kernel
set_option maxRecDepth 65536 in
theorem w_case : (Jvm.Cond.and given_1 narrow_1).before args0 about1 = true := by decide +kernel
theorem w_applies : (headSpec (Jvm.Cond.code x code maxLocals ret :: tables_1) room_1).applies x e0.platform about1 = true :=
  (Spec.applies_iff w_frames).mpr ⟨w_running, w_runnable, w_alone, w_named, w_hears, w_ripe, w_room, w_tables⟩
theorem atStart : AtStart classFile x code maxLocals ret World_1 tables_1 room_1 Calls_1 rest_1 Pre_1 launch0 p0 e0 about1 theMethod args0 below0 :=
  ⟨lists_1, trivial, launch0.admits_env _ _ _, launch0.least_env, fairChoices_fair.cas, fairChoices_fair.clock, w_frames, w_args, w_heap, w_applies, trivial, w_rest, w_case⟩
end start1
theorem witness_1 : WitnessClaimed_1 := ⟨start1.p0, start1.e0, start1.about1, start1.theMethod, start1.args0, start1.below0, start1.atStart⟩
end Jvm.Pilot.@@N@@
